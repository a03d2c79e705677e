import JvmDerived
import JvmDerived.Pilot.@@N@@Statement
import JvmDerived.Pilot.@@N@@Code
set_option linter.unusedVariables false
set_option linter.unusedSimpArgs false
namespace Jvm.RoadKit
open Sem ClassFile Op Lib Jvm.Stand Jvm.Free Jvm.LawKit
section New
variable {p : Program} {l : Launch} {e : Env} {R : Room} {s : State} {m : MethodId} {args : Array Value} {below : List Frame} {meth : Method} {c : Code} {T : State} {locs : List Loc} {cells slots : Nat}
theorem retI (X : Stand p l e R s m args below meth c T locs cells slots) (hx : p.tables.exec = Jvm.exec) {pc : Nat} {Ls : Array Slot} {z : Int32} {rest : List Value} (hret : meth.sig.returnType = some .int) (hd : decode c.code pc = .ok (.ireturn, 1)) {fs : List Frame}
    (hl : ∀ (f : JFrame) (acts : List Action), f.method = m → f.locked = none → f.entered = [] → (doReturn e (T.setTop f) acts (some (.int z))).1 = T.setFrames fs) : Steps p.tables e below (T.setTop (mkF m pc Ls (.int z :: rest))) (T.setFrames fs) := by
  have hm' : T.vm.method? m = some meth := X.method'
  have hn : narrow .int (.int z) = .int z := rfl
  show Steps p.tables e below (T.setTop { method := m, pc := pc, locals := Ls, stack := _ :: rest, locked := none }) _
  jvm_step X.here [X.here.top, hx, hd, hm', hret, hn]
  first | (intro acts; rw [hl _ acts rfl rfl rfl]) | rw [hl _ _ rfl rfl rfl]
  exact Steps.refl _
/-- from here the invocation comes to an end of which R holds -/
def Goes (p : Program) (e : Env) (below : List Frame) (cur : State) (R : State → Outcome → Prop) : Prop := ∃ s₂ o, Steps p.tables e below cur s₂ ∧ s₂.status = .running ∧ Ended s₂ below o ∧ R s₂ o
theorem Goes.via {cur next : State} {R : State → Outcome → Prop} (k : ∀ t, Steps p.tables e below next t → Steps p.tables e below cur t) (h : Goes p e below next R) : Goes p e below cur R := by
  obtain ⟨s₂, o, h1, h2⟩ := h
  exact ⟨s₂, o, k _ h1, h2⟩
end New
end Jvm.RoadKit
namespace Jvm.Pilot.@@N@@
open Jvm Jvm.ClassFile Sem Op Lib Jvm.Free Jvm.Stand Jvm.LawKit Jvm.RoadKit Bundle Jvm.Pilot.@@N@@.Jvm.D
theorem d1_0 : decode prog_124_method_17_code 0 = .ok (.iload_n 0, 1) := by decide +kernel
theorem d1_1 : decode prog_124_method_17_code 1 = .ok (.bipush 48, 2) := by decide +kernel
theorem d1_3 : decode prog_124_method_17_code 3 = .ok (.if_icmp .lt 13, 3) := by decide +kernel
theorem d1_6 : decode prog_124_method_17_code 6 = .ok (.iload_n 0, 1) := by decide +kernel
theorem d1_7 : decode prog_124_method_17_code 7 = .ok (.bipush 57, 2) := by decide +kernel
theorem d1_9 : decode prog_124_method_17_code 9 = .ok (.if_icmp .gt 7, 3) := by decide +kernel
theorem d1_12 : decode prog_124_method_17_code 12 = .ok (.iconst 1, 1) := by decide +kernel
theorem d1_13 : decode prog_124_method_17_code 13 = .ok (.goto 4, 3) := by decide +kernel
theorem d1_16 : decode prog_124_method_17_code 16 = .ok (.iconst 0, 1) := by decide +kernel
theorem d1_17 : decode prog_124_method_17_code 17 = .ok (.ireturn, 1) := by decide +kernel
theorem pn_1 : plainName "cascabel/writer/TokenText" = true := by first | (simp [plainName, overriddenIn]; done) | decide +kernel
theorem ef_1 (m : MethodId) (x0 : Int32) : entryFrame m #[(.int x0)] 1 = mkF m 0 #[.val (.int x0)] [] := by first | (simp [entryFrame, mkF, argsToLocals, Value.category]; done) | rfl
def v1_17_0 (p1 : Int32) : Int32 := (if p1 < (48 : Int32) then (0 : Int32) else (if (57 : Int32) < p1 then (0 : Int32) else (1 : Int32)))
def f1 (p1 : Int32) : Int32 :=
  (nar .boolean (v1_17_0 p1))
def Q1 (Z : State) (p1 : Int32) (h0 : Heap) (n0 : Nat) (v : Option Value) (h : Heap) (L : List Loc) : Prop := v = some (.int (f1 p1)) ∧ Fr n0 L ∧ h = h0
set_option maxRecDepth 65536 in
set_option maxHeartbeats 40000000 in
theorem rm1 (l : Launch) (Z : State) (a0 : Array Value) (hw : ∀ d ∈ tables_1, d.before a0 Z = true) (ws : List Jvm.Cond) (p1 : Int32) (h0 : Heap) (n0 : Nat) (Z0 : n0 ≤ h0.size) :
    MetFree l (⟨"cascabel/writer/TokenText", "isDigit", "(I)Z"⟩ : MethodName) (head1 (Jvm.Cond.code (⟨"cascabel/writer/TokenText", "isDigit", "(I)Z"⟩ : MethodName) prog_124_method_17_code 1 (some .boolean) :: ws) ({ frames := 0, cells := 0, slots := 0, locals := 0 } : Room)) (fun a U => a = #[(.int p1)] ∧ Z.Warmed39 U.vm ∧ U.heap = h0) (fun _ _ _ _ _ => True) (fun _ U o U' => ∃ v L, o = .returned v ∧ Q1 Z p1 h0 n0 v U'.heap L ∧ FrameEnd U o U' L ({ frames := 0, cells := 0, slots := 0, locals := 0 } : Room).cells ({ frames := 0, cells := 0, slots := 0, locals := 0 } : Room).slots) := by
  refine MetFree.of_bodySF (plainFor_of_name pn_1) hisR ?_
  intro p e s m args below meth c s₁ Bd hml0 hP hK
  obtain ⟨rfl, hZ, hh⟩ := hP
  have hx := Bd.exec
  have hby := Bd.bytes
  have hml : c.maxLocals = 1 := hml0
  have hown : s.vm.findClass "cascabel/writer/TokenText" = some m.cls := findClass_of_methodNamed Bd.named
  have hnm := (name_of_methodNamed Bd.named Bd.method).1
  have X0 : Stand p l e ({ frames := 0, cells := 0, slots := 0, locals := 0 } : Room) s m #[(.int p1)] below meth c s₁ [] 0 0 := Stand.of_body Bd
  have e0 : s₁.heap = h0 := by rw [← hh, Bd.state]; rfl
  have N0 := Fr.nil n0
  refine Goes.via (next := s₁.setTop (mkF m 0 #[.val (.int p1)] [])) (fun t k => castTop (ef_1 m p1) k) ?_
  refine Goes.via (fun t k => XS.iloadN X0.here hx rfl (hb hby d1_0) rfl k) ?_
  show Goes p e below (s₁.setTop (mkF m 1 #[.val (.int p1)] [(.int p1)])) _
  refine Goes.via (fun t k => XS.bipush X0.here hx rfl (hb hby d1_1) k) ?_
  show Goes p e below (s₁.setTop (mkF m 3 #[.val (.int p1)] [(.int (48 : Int32)), (.int p1)])) _
  refine Goes.via (next := s₁.setTop (mkF m 17 #[.val (.int p1)] [(.int (v1_17_0 p1))])) (fun t k => ?_) ?_
  · by_cases hc3_1 : p1 < (48 : Int32)
    · refine XS.icmpYes X0.here hx rfl (pc0 := 3) (pc' := 16) rfl (hb hby d1_3) rfl (tlt hc3_1).1 (by decide) (by decide) ?_
      show Steps p.tables e below (s₁.setTop (mkF m 16 #[.val (.int p1)] [])) _
      refine XS.iconst X0.here hx rfl (hb hby d1_16) ?_
      show Steps p.tables e below (s₁.setTop (mkF m 17 #[.val (.int p1)] [(.int (0 : Int32))])) _
      simpa only [v1_17_0, if_pos hc3_1] using k
    · refine XS.icmpNo X0.here hx rfl (hb hby d1_3) rfl (flt hc3_1).1 ?_
      show Steps p.tables e below (s₁.setTop (mkF m 6 #[.val (.int p1)] [])) _
      refine XS.iloadN X0.here hx rfl (hb hby d1_6) rfl ?_
      show Steps p.tables e below (s₁.setTop (mkF m 7 #[.val (.int p1)] [(.int p1)])) _
      refine XS.bipush X0.here hx rfl (hb hby d1_7) ?_
      show Steps p.tables e below (s₁.setTop (mkF m 9 #[.val (.int p1)] [(.int (57 : Int32)), (.int p1)])) _
      by_cases hc9_2 : (57 : Int32) < p1
      · refine XS.icmpYes X0.here hx rfl (pc0 := 9) (pc' := 16) rfl (hb hby d1_9) rfl (tlt hc9_2).2.2.1 (by decide) (by decide) ?_
        show Steps p.tables e below (s₁.setTop (mkF m 16 #[.val (.int p1)] [])) _
        refine XS.iconst X0.here hx rfl (hb hby d1_16) ?_
        show Steps p.tables e below (s₁.setTop (mkF m 17 #[.val (.int p1)] [(.int (0 : Int32))])) _
        simpa only [v1_17_0, if_neg hc3_1, if_pos hc9_2] using k
      · refine XS.icmpNo X0.here hx rfl (hb hby d1_9) rfl (flt hc9_2).2.2.1 ?_
        show Steps p.tables e below (s₁.setTop (mkF m 12 #[.val (.int p1)] [])) _
        refine XS.iconst X0.here hx rfl (hb hby d1_12) ?_
        show Steps p.tables e below (s₁.setTop (mkF m 13 #[.val (.int p1)] [(.int (1 : Int32))])) _
        refine XS.goto X0.here hx rfl (pc0 := 13) (pc' := 17) rfl (hb hby d1_13) (by decide) (by decide) ?_
        show Steps p.tables e below (s₁.setTop (mkF m 17 #[.val (.int p1)] [(.int (1 : Int32))])) _
        simpa only [v1_17_0, if_neg hc3_1, if_neg hc9_2] using k
  show Goes p e below (s₁.setTop (mkF m 17 #[.val (.int p1)] [(.int (v1_17_0 p1))])) _
  obtain ⟨fs, hr, hrun, hended, hW, hsame⟩ := X0.leave (v := some (.int (nar .boolean (v1_17_0 p1)))) (fun h => by rw [Bd.returns] at h; cases h)
  refine ⟨_, _, ?_, hrun, hended, _, _, rfl, ?_, ⟨_, rfl⟩, hW, hsame.mono (by decide) (by decide)⟩
  · exact retN X0 hx (t := .boolean) Bd.returns (by simp) (hb hby d1_17) hr
  · show Q1 Z p1 h0 n0 _ s₁.heap _
    rw [e0]
    exact ⟨congrArg some (congrArg _ rfl), N0, rfl⟩
theorem pn_0 : plainName "cascabel/writer/TokenTextIsDigitPinLaw" = true := by first | (simp [plainName, overriddenIn]; done) | decide +kernel
theorem pd_0_0 : parseMethodDescriptor "(I)Z" = some ⟨[.int], some .boolean⟩ := by decide +kernel
theorem ef_0 (m : MethodId) (x0 : Int32) (x1 : Int32) : entryFrame m #[(.int x0), (.int x1)] maxLocals = mkF m 0 #[.val (.int x0), .val (.int x1), .unset, .unset, .unset, .unset, .unset, .unset, .unset] [] := by first | (simp [entryFrame, mkF, argsToLocals, Value.category, maxLocals]; done) | rfl
def v0_10_0 (p1 : Int32) : Int64 := (((p1.toInt64) - (48 : Int64)) &&& (4294967295 : Int64))
def v0_24_1 (p1 : Int32) : Int32 := (if (v0_10_0 p1) < (10 : Int64) then (1 : Int32) else (0 : Int32))
def v0_40_2 (p1 : Int32) : Int32 := (if (f1 p1) = (v0_24_1 p1) then (1 : Int32) else (0 : Int32))
def v0_52_3 (p2 : Int32) : Int32 := ((48 : Int32) + ((p2 &&& (2147483647 : Int32)) % (10 : Int32)))
def v0_91_4  : Int32 := (if (f1 (1632 : Int32)) = (0 : Int32) then (1 : Int32) else (0 : Int32))
def v0_113_5 (p1 : Int32) (p2 : Int32) : Int32 := (if (v0_40_2 p1) = (0 : Int32) then (0 : Int32) else (if (f1 (v0_52_3 p2)) = (0 : Int32) then (0 : Int32) else (if (v0_91_4) = (0 : Int32) then (0 : Int32) else (1 : Int32))))
def f0 (p1 : Int32) (p2 : Int32) : Int32 :=
  if (f1 (47 : Int32)) = (0 : Int32) then (if (f1 (58 : Int32)) = (0 : Int32) then (nar .boolean (v0_113_5 p1 p2)) else
  (0 : Int32)) else
  (0 : Int32)
def Q0 (Z : State) (p1 : Int32) (p2 : Int32) (h0 : Heap) (n0 : Nat) (v : Option Value) (h : Heap) (L : List Loc) : Prop := v = some (.int (f0 p1 p2)) ∧ Fr n0 L ∧ h = h0
set_option maxRecDepth 65536 in
set_option maxHeartbeats 40000000 in
theorem rm0 (l : Launch) (Z : State) (a0 : Array Value) (hw : ∀ d ∈ tables_1, d.before a0 Z = true) (ws : List Jvm.Cond) (p1 : Int32) (p2 : Int32) (h0 : Heap) (n0 : Nat) (Z0 : n0 ≤ h0.size) :
    MetFree l x (head1 (Jvm.Cond.code x code maxLocals ret :: ws) room_1) (fun a U => a = #[(.int p1), (.int p2)] ∧ Z.Warmed39 U.vm ∧ U.heap = h0) (fun _ _ _ _ _ => True) (fun _ U o U' => ∃ v L, o = .returned v ∧ Q0 Z p1 p2 h0 n0 v U'.heap L ∧ FrameEnd U o U' L room_1.cells room_1.slots) := by
  refine MetFree.of_bodySF (plainFor_of_name pn_0) hisR ?_
  intro p e s m args below meth c s₁ Bd hml0 hP hK
  obtain ⟨rfl, hZ, hh⟩ := hP
  have hx := Bd.exec
  have hby := Bd.bytes
  have hml : c.maxLocals = 9 := hml0
  have hown : s.vm.findClass "cascabel/writer/TokenTextIsDigitPinLaw" = some m.cls := findClass_of_methodNamed Bd.named
  have hnm := (name_of_methodNamed Bd.named Bd.method).1
  have X0 : Stand p l e room_1 s m #[(.int p1), (.int p2)] below meth c s₁ [] 0 0 := Stand.of_body Bd
  have e0 : s₁.heap = h0 := by rw [← hh, Bd.state]; rfl
  have N0 := Fr.nil n0
  refine Goes.via (next := s₁.setTop (mkF m 0 #[.val (.int p1), .val (.int p2), .unset, .unset, .unset, .unset, .unset, .unset, .unset] [])) (fun t k => castTop (ef_0 m p1 p2) k) ?_
  refine Goes.via (fun t k => XS.iloadN X0.here hx rfl (hb hby at_0) rfl k) ?_
  show Goes p e below (s₁.setTop (mkF m 1 #[.val (.int p1), .val (.int p2), .unset, .unset, .unset, .unset, .unset, .unset, .unset] [(.int p1)])) _
  refine Goes.via (fun t k => XS.i2l X0.here hx rfl (hb hby at_1) rfl k) ?_
  show Goes p e below (s₁.setTop (mkF m 2 #[.val (.int p1), .val (.int p2), .unset, .unset, .unset, .unset, .unset, .unset, .unset] [(.long (p1.toInt64))])) _
  refine Goes.via (fun t k => X0.ldc2Long hx hown (mvT hZ (hw _ (List.mem_of_getElem? (i := 0) rfl))) (g := (mkF m 2 #[.val (.int p1), .val (.int p2), .unset, .unset, .unset, .unset, .unset, .unset, .unset] [(.long (p1.toInt64))])) rfl (hb hby at_2) _ k) ?_
  show Goes p e below (s₁.setTop (mkF m 5 #[.val (.int p1), .val (.int p2), .unset, .unset, .unset, .unset, .unset, .unset, .unset] [(.long (48 : Int64)), (.long (p1.toInt64))])) _
  refine Goes.via (fun t k => XS.lsub X0.here hx rfl (hb hby at_5) rfl k) ?_
  show Goes p e below (s₁.setTop (mkF m 6 #[.val (.int p1), .val (.int p2), .unset, .unset, .unset, .unset, .unset, .unset, .unset] [(.long ((p1.toInt64) - (48 : Int64)))])) _
  refine Goes.via (fun t k => X0.ldc2Long hx hown (mvT hZ (hw _ (List.mem_of_getElem? (i := 1) rfl))) (g := (mkF m 6 #[.val (.int p1), .val (.int p2), .unset, .unset, .unset, .unset, .unset, .unset, .unset] [(.long ((p1.toInt64) - (48 : Int64)))])) rfl (hb hby at_6) _ k) ?_
  show Goes p e below (s₁.setTop (mkF m 9 #[.val (.int p1), .val (.int p2), .unset, .unset, .unset, .unset, .unset, .unset, .unset] [(.long (4294967295 : Int64)), (.long ((p1.toInt64) - (48 : Int64)))])) _
  refine Goes.via (fun t k => XS.land X0.here hx rfl (hb hby at_9) rfl k) ?_
  show Goes p e below (s₁.setTop (mkF m 10 #[.val (.int p1), .val (.int p2), .unset, .unset, .unset, .unset, .unset, .unset, .unset] [(.long (((p1.toInt64) - (48 : Int64)) &&& (4294967295 : Int64)))])) _
  refine Goes.via (fun t k => XS.lstoreN X0.here hx rfl (hb hby at_10) rfl (l' := #[.val (.int p1), .val (.int p2), .val (.long (v0_10_0 p1)), .second, .unset, .unset, .unset, .unset, .unset]) rfl k) ?_
  show Goes p e below (s₁.setTop (mkF m 11 #[.val (.int p1), .val (.int p2), .val (.long (v0_10_0 p1)), .second, .unset, .unset, .unset, .unset, .unset] [])) _
  refine Goes.via (fun t k => XS.lloadN X0.here hx rfl (hb hby at_11) rfl k) ?_
  show Goes p e below (s₁.setTop (mkF m 12 #[.val (.int p1), .val (.int p2), .val (.long (v0_10_0 p1)), .second, .unset, .unset, .unset, .unset, .unset] [(.long (v0_10_0 p1))])) _
  refine Goes.via (fun t k => X0.ldc2Long hx hown (mvT hZ (hw _ (List.mem_of_getElem? (i := 2) rfl))) (g := (mkF m 12 #[.val (.int p1), .val (.int p2), .val (.long (v0_10_0 p1)), .second, .unset, .unset, .unset, .unset, .unset] [(.long (v0_10_0 p1))])) rfl (hb hby at_12) _ k) ?_
  show Goes p e below (s₁.setTop (mkF m 15 #[.val (.int p1), .val (.int p2), .val (.long (v0_10_0 p1)), .second, .unset, .unset, .unset, .unset, .unset] [(.long (10 : Int64)), (.long (v0_10_0 p1))])) _
  refine Goes.via (fun t k => XS.lcmp X0.here hx rfl (hb hby at_15) rfl k) ?_
  show Goes p e below (s₁.setTop (mkF m 16 #[.val (.int p1), .val (.int p2), .val (.long (v0_10_0 p1)), .second, .unset, .unset, .unset, .unset, .unset] [(.int (lcmpW (v0_10_0 p1) (10 : Int64)))])) _
  refine Goes.via (next := s₁.setTop (mkF m 24 #[.val (.int p1), .val (.int p2), .val (.long (v0_10_0 p1)), .second, .unset, .unset, .unset, .unset, .unset] [(.int (v0_24_1 p1))])) (fun t k => ?_) ?_
  · by_cases hc16_1 : (v0_10_0 p1) < (10 : Int64)
    · refine XS.ifNo X0.here hx rfl (hb hby at_16) rfl ((if0 _ _).trans (tlt ((lw_lt _ _).mpr hc16_1)).2.1) ?_
      show Steps p.tables e below (s₁.setTop (mkF m 19 #[.val (.int p1), .val (.int p2), .val (.long (v0_10_0 p1)), .second, .unset, .unset, .unset, .unset, .unset] [])) _
      refine XS.iconst X0.here hx rfl (hb hby at_19) ?_
      show Steps p.tables e below (s₁.setTop (mkF m 20 #[.val (.int p1), .val (.int p2), .val (.long (v0_10_0 p1)), .second, .unset, .unset, .unset, .unset, .unset] [(.int (1 : Int32))])) _
      refine XS.goto X0.here hx rfl (pc0 := 20) (pc' := 24) rfl (hb hby at_20) (by decide) (by decide) ?_
      show Steps p.tables e below (s₁.setTop (mkF m 24 #[.val (.int p1), .val (.int p2), .val (.long (v0_10_0 p1)), .second, .unset, .unset, .unset, .unset, .unset] [(.int (1 : Int32))])) _
      simpa only [v0_24_1, if_pos hc16_1] using k
    · refine XS.ifYes X0.here hx rfl (pc0 := 16) (pc' := 23) rfl (hb hby at_16) rfl ((if0 _ _).trans (flt (fun q => hc16_1 ((lw_lt _ _).mp q))).2.1) (by decide) (by decide) ?_
      show Steps p.tables e below (s₁.setTop (mkF m 23 #[.val (.int p1), .val (.int p2), .val (.long (v0_10_0 p1)), .second, .unset, .unset, .unset, .unset, .unset] [])) _
      refine XS.iconst X0.here hx rfl (hb hby at_23) ?_
      show Steps p.tables e below (s₁.setTop (mkF m 24 #[.val (.int p1), .val (.int p2), .val (.long (v0_10_0 p1)), .second, .unset, .unset, .unset, .unset, .unset] [(.int (0 : Int32))])) _
      simpa only [v0_24_1, if_neg hc16_1] using k
  show Goes p e below (s₁.setTop (mkF m 24 #[.val (.int p1), .val (.int p2), .val (.long (v0_10_0 p1)), .second, .unset, .unset, .unset, .unset, .unset] [(.int (v0_24_1 p1))])) _
  refine Goes.via (fun t k => XS.istore X0.here hx rfl (hb hby at_24) rfl (l' := #[.val (.int p1), .val (.int p2), .val (.long (v0_10_0 p1)), .second, .val (.int (v0_24_1 p1)), .unset, .unset, .unset, .unset]) rfl k) ?_
  show Goes p e below (s₁.setTop (mkF m 26 #[.val (.int p1), .val (.int p2), .val (.long (v0_10_0 p1)), .second, .val (.int (v0_24_1 p1)), .unset, .unset, .unset, .unset] [])) _
  refine Goes.via (fun t k => XS.iloadN X0.here hx rfl (hb hby at_26) rfl k) ?_
  show Goes p e below (s₁.setTop (mkF m 27 #[.val (.int p1), .val (.int p2), .val (.long (v0_10_0 p1)), .second, .val (.int (v0_24_1 p1)), .unset, .unset, .unset, .unset] [(.int p1)])) _
  obtain ⟨_, _, ⟨T2, L2, k2, n2⟩, -, X2, ⟨Lc2, hQ2, l2, y2, z2⟩, st2⟩ := Jvm.LawKit.callS X0 hx (y := (⟨"cascabel/writer/TokenText", "isDigit", "(I)Z"⟩ : MethodName)) hown (mvT hZ (hw _ (List.mem_of_getElem? (i := 3) rfl))) (mvT hZ (hw _ (List.mem_of_getElem? (i := 4) rfl))) (mvT hZ (hw _ (List.mem_of_getElem? (i := 5) rfl))) (mvT hZ (hw _ (List.mem_of_getElem? (i := 6) rfl))) (by decide) (backOf (W := 0) (rm1 l Z a0 hw [] p1 h0 n0 Z0 ) hZ (hw _ (List.mem_of_getElem? (i := 6) rfl)) (hw _ (List.mem_of_getElem? (i := 5) rfl)) (by decide) (by decide)) (g := (mkF m 27 #[.val (.int p1), .val (.int p2), .val (.long (v0_10_0 p1)), .second, .val (.int (v0_24_1 p1)), .unset, .unset, .unset, .unset] [(.int p1)])) rfl (by rw [hml]; rfl) (argsL := [(.int p1)]) (rest := []) (lenOf pd_0_0 rfl) rfl (by show 2 * 0 + _ ≤ _; exact Nat.le_of_eq rfl) (hb hby at_27) (fun _ _ => ⟨rfl, e0, (by decide : 0 + 0 ≤ _), (by decide : 0 + 0 ≤ _)⟩)
  dsimp only [Pt.U, Pt.locs, Pt.cells, Pt.slots] at X2 l2 y2 z2 st2 hQ2
  subst l2 y2 z2
  obtain ⟨rfl, N2q, er2⟩ := hQ2
  have e2 : T2.heap = h0 := er2
  have N2 := Fr.app N0 N2q
  refine Goes.via st2 ?_
  show Goes p e below (T2.setTop (mkF m 30 #[.val (.int p1), .val (.int p2), .val (.long (v0_10_0 p1)), .second, .val (.int (v0_24_1 p1)), .unset, .unset, .unset, .unset] [(.int (f1 p1))])) _
  refine Goes.via (fun t k => XS.iload X2.here hx rfl (hb hby at_30) rfl k) ?_
  show Goes p e below (T2.setTop (mkF m 32 #[.val (.int p1), .val (.int p2), .val (.long (v0_10_0 p1)), .second, .val (.int (v0_24_1 p1)), .unset, .unset, .unset, .unset] [(.int (v0_24_1 p1)), (.int (f1 p1))])) _
  refine Goes.via (next := T2.setTop (mkF m 40 #[.val (.int p1), .val (.int p2), .val (.long (v0_10_0 p1)), .second, .val (.int (v0_24_1 p1)), .unset, .unset, .unset, .unset] [(.int (v0_40_2 p1))])) (fun t k => ?_) ?_
  · by_cases hc32_3 : (f1 p1) = (v0_24_1 p1)
    · refine XS.icmpNo X2.here hx rfl (hb hby at_32) rfl (teq hc32_3).2 ?_
      show Steps p.tables e below (T2.setTop (mkF m 35 #[.val (.int p1), .val (.int p2), .val (.long (v0_10_0 p1)), .second, .val (.int (v0_24_1 p1)), .unset, .unset, .unset, .unset] [])) _
      refine XS.iconst X2.here hx rfl (hb hby at_35) ?_
      show Steps p.tables e below (T2.setTop (mkF m 36 #[.val (.int p1), .val (.int p2), .val (.long (v0_10_0 p1)), .second, .val (.int (v0_24_1 p1)), .unset, .unset, .unset, .unset] [(.int (1 : Int32))])) _
      refine XS.goto X2.here hx rfl (pc0 := 36) (pc' := 40) rfl (hb hby at_36) (by decide) (by decide) ?_
      show Steps p.tables e below (T2.setTop (mkF m 40 #[.val (.int p1), .val (.int p2), .val (.long (v0_10_0 p1)), .second, .val (.int (v0_24_1 p1)), .unset, .unset, .unset, .unset] [(.int (1 : Int32))])) _
      simpa only [v0_40_2, if_pos hc32_3] using k
    · refine XS.icmpYes X2.here hx rfl (pc0 := 32) (pc' := 39) rfl (hb hby at_32) rfl (feq hc32_3).2 (by decide) (by decide) ?_
      show Steps p.tables e below (T2.setTop (mkF m 39 #[.val (.int p1), .val (.int p2), .val (.long (v0_10_0 p1)), .second, .val (.int (v0_24_1 p1)), .unset, .unset, .unset, .unset] [])) _
      refine XS.iconst X2.here hx rfl (hb hby at_39) ?_
      show Steps p.tables e below (T2.setTop (mkF m 40 #[.val (.int p1), .val (.int p2), .val (.long (v0_10_0 p1)), .second, .val (.int (v0_24_1 p1)), .unset, .unset, .unset, .unset] [(.int (0 : Int32))])) _
      simpa only [v0_40_2, if_neg hc32_3] using k
  show Goes p e below (T2.setTop (mkF m 40 #[.val (.int p1), .val (.int p2), .val (.long (v0_10_0 p1)), .second, .val (.int (v0_24_1 p1)), .unset, .unset, .unset, .unset] [(.int (v0_40_2 p1))])) _
  refine Goes.via (fun t k => XS.istore X2.here hx rfl (hb hby at_40) rfl (l' := #[.val (.int p1), .val (.int p2), .val (.long (v0_10_0 p1)), .second, .val (.int (v0_24_1 p1)), .val (.int (v0_40_2 p1)), .unset, .unset, .unset]) rfl k) ?_
  show Goes p e below (T2.setTop (mkF m 42 #[.val (.int p1), .val (.int p2), .val (.long (v0_10_0 p1)), .second, .val (.int (v0_24_1 p1)), .val (.int (v0_40_2 p1)), .unset, .unset, .unset] [])) _
  refine Goes.via (fun t k => XS.bipush X2.here hx rfl (hb hby at_42) k) ?_
  show Goes p e below (T2.setTop (mkF m 44 #[.val (.int p1), .val (.int p2), .val (.long (v0_10_0 p1)), .second, .val (.int (v0_24_1 p1)), .val (.int (v0_40_2 p1)), .unset, .unset, .unset] [(.int (48 : Int32))])) _
  refine Goes.via (fun t k => XS.iloadN X2.here hx rfl (hb hby at_44) rfl k) ?_
  show Goes p e below (T2.setTop (mkF m 45 #[.val (.int p1), .val (.int p2), .val (.long (v0_10_0 p1)), .second, .val (.int (v0_24_1 p1)), .val (.int (v0_40_2 p1)), .unset, .unset, .unset] [(.int p2), (.int (48 : Int32))])) _
  refine Goes.via (fun t k => X2.ldcInt hx hown (mvT hZ (hw _ (List.mem_of_getElem? (i := 7) rfl))) (g := (mkF m 45 #[.val (.int p1), .val (.int p2), .val (.long (v0_10_0 p1)), .second, .val (.int (v0_24_1 p1)), .val (.int (v0_40_2 p1)), .unset, .unset, .unset] [(.int p2), (.int (48 : Int32))])) rfl (hb hby at_45) _ k) ?_
  show Goes p e below (T2.setTop (mkF m 47 #[.val (.int p1), .val (.int p2), .val (.long (v0_10_0 p1)), .second, .val (.int (v0_24_1 p1)), .val (.int (v0_40_2 p1)), .unset, .unset, .unset] [(.int (2147483647 : Int32)), (.int p2), (.int (48 : Int32))])) _
  refine Goes.via (fun t k => XS.iand X2.here hx rfl (hb hby at_47) rfl k) ?_
  show Goes p e below (T2.setTop (mkF m 48 #[.val (.int p1), .val (.int p2), .val (.long (v0_10_0 p1)), .second, .val (.int (v0_24_1 p1)), .val (.int (v0_40_2 p1)), .unset, .unset, .unset] [(.int (p2 &&& (2147483647 : Int32))), (.int (48 : Int32))])) _
  refine Goes.via (fun t k => XS.bipush X2.here hx rfl (hb hby at_48) k) ?_
  show Goes p e below (T2.setTop (mkF m 50 #[.val (.int p1), .val (.int p2), .val (.long (v0_10_0 p1)), .second, .val (.int (v0_24_1 p1)), .val (.int (v0_40_2 p1)), .unset, .unset, .unset] [(.int (10 : Int32)), (.int (p2 &&& (2147483647 : Int32))), (.int (48 : Int32))])) _
  refine Goes.via (fun t k => iremM X2 hx rfl (hb hby at_50) rfl (by decide) k) ?_
  show Goes p e below (T2.setTop (mkF m 51 #[.val (.int p1), .val (.int p2), .val (.long (v0_10_0 p1)), .second, .val (.int (v0_24_1 p1)), .val (.int (v0_40_2 p1)), .unset, .unset, .unset] [(.int ((p2 &&& (2147483647 : Int32)) % (10 : Int32))), (.int (48 : Int32))])) _
  refine Goes.via (fun t k => XS.iadd X2.here hx rfl (hb hby at_51) rfl k) ?_
  show Goes p e below (T2.setTop (mkF m 52 #[.val (.int p1), .val (.int p2), .val (.long (v0_10_0 p1)), .second, .val (.int (v0_24_1 p1)), .val (.int (v0_40_2 p1)), .unset, .unset, .unset] [(.int ((48 : Int32) + ((p2 &&& (2147483647 : Int32)) % (10 : Int32))))])) _
  refine Goes.via (fun t k => XS.istore X2.here hx rfl (hb hby at_52) rfl (l' := #[.val (.int p1), .val (.int p2), .val (.long (v0_10_0 p1)), .second, .val (.int (v0_24_1 p1)), .val (.int (v0_40_2 p1)), .val (.int (v0_52_3 p2)), .unset, .unset]) rfl k) ?_
  show Goes p e below (T2.setTop (mkF m 54 #[.val (.int p1), .val (.int p2), .val (.long (v0_10_0 p1)), .second, .val (.int (v0_24_1 p1)), .val (.int (v0_40_2 p1)), .val (.int (v0_52_3 p2)), .unset, .unset] [])) _
  refine Goes.via (fun t k => XS.iload X2.here hx rfl (hb hby at_54) rfl k) ?_
  show Goes p e below (T2.setTop (mkF m 56 #[.val (.int p1), .val (.int p2), .val (.long (v0_10_0 p1)), .second, .val (.int (v0_24_1 p1)), .val (.int (v0_40_2 p1)), .val (.int (v0_52_3 p2)), .unset, .unset] [(.int (v0_52_3 p2))])) _
  obtain ⟨_, _, ⟨T4, L4, k4, n4⟩, -, X4, ⟨Lc4, hQ4, l4, y4, z4⟩, st4⟩ := Jvm.LawKit.callS X2 hx (y := (⟨"cascabel/writer/TokenText", "isDigit", "(I)Z"⟩ : MethodName)) hown (mvT hZ (hw _ (List.mem_of_getElem? (i := 3) rfl))) (mvT hZ (hw _ (List.mem_of_getElem? (i := 4) rfl))) (mvT hZ (hw _ (List.mem_of_getElem? (i := 5) rfl))) (mvT hZ (hw _ (List.mem_of_getElem? (i := 6) rfl))) (by decide) (backOf (W := 0) (rm1 l Z a0 hw [] (v0_52_3 p2) h0 n0 Z0 ) hZ (hw _ (List.mem_of_getElem? (i := 6) rfl)) (hw _ (List.mem_of_getElem? (i := 5) rfl)) (by decide) (by decide)) (g := (mkF m 56 #[.val (.int p1), .val (.int p2), .val (.long (v0_10_0 p1)), .second, .val (.int (v0_24_1 p1)), .val (.int (v0_40_2 p1)), .val (.int (v0_52_3 p2)), .unset, .unset] [(.int (v0_52_3 p2))])) rfl (by rw [hml]; rfl) (argsL := [(.int (v0_52_3 p2))]) (rest := []) (lenOf pd_0_0 rfl) rfl (by show 2 * 0 + _ ≤ _; exact Nat.le_of_eq rfl) (hb hby at_56) (fun _ _ => ⟨rfl, e2, (by decide : 0 + 0 ≤ _), (by decide : 0 + 0 ≤ _)⟩)
  dsimp only [Pt.U, Pt.locs, Pt.cells, Pt.slots] at X4 l4 y4 z4 st4 hQ4
  subst l4 y4 z4
  obtain ⟨rfl, N4q, er4⟩ := hQ4
  have e4 : T4.heap = h0 := er4
  have N4 := Fr.app N2 N4q
  refine Goes.via st4 ?_
  show Goes p e below (T4.setTop (mkF m 59 #[.val (.int p1), .val (.int p2), .val (.long (v0_10_0 p1)), .second, .val (.int (v0_24_1 p1)), .val (.int (v0_40_2 p1)), .val (.int (v0_52_3 p2)), .unset, .unset] [(.int (f1 (v0_52_3 p2)))])) _
  refine Goes.via (fun t k => XS.istore X4.here hx rfl (hb hby at_59) rfl (l' := #[.val (.int p1), .val (.int p2), .val (.long (v0_10_0 p1)), .second, .val (.int (v0_24_1 p1)), .val (.int (v0_40_2 p1)), .val (.int (v0_52_3 p2)), .val (.int (f1 (v0_52_3 p2))), .unset]) rfl k) ?_
  show Goes p e below (T4.setTop (mkF m 61 #[.val (.int p1), .val (.int p2), .val (.long (v0_10_0 p1)), .second, .val (.int (v0_24_1 p1)), .val (.int (v0_40_2 p1)), .val (.int (v0_52_3 p2)), .val (.int (f1 (v0_52_3 p2))), .unset] [])) _
  refine Goes.via (fun t k => XS.bipush X4.here hx rfl (hb hby at_61) k) ?_
  show Goes p e below (T4.setTop (mkF m 63 #[.val (.int p1), .val (.int p2), .val (.long (v0_10_0 p1)), .second, .val (.int (v0_24_1 p1)), .val (.int (v0_40_2 p1)), .val (.int (v0_52_3 p2)), .val (.int (f1 (v0_52_3 p2))), .unset] [(.int (47 : Int32))])) _
  obtain ⟨_, _, ⟨T5, L5, k5, n5⟩, -, X5, ⟨Lc5, hQ5, l5, y5, z5⟩, st5⟩ := Jvm.LawKit.callS X4 hx (y := (⟨"cascabel/writer/TokenText", "isDigit", "(I)Z"⟩ : MethodName)) hown (mvT hZ (hw _ (List.mem_of_getElem? (i := 3) rfl))) (mvT hZ (hw _ (List.mem_of_getElem? (i := 4) rfl))) (mvT hZ (hw _ (List.mem_of_getElem? (i := 5) rfl))) (mvT hZ (hw _ (List.mem_of_getElem? (i := 6) rfl))) (by decide) (backOf (W := 0) (rm1 l Z a0 hw [] (47 : Int32) h0 n0 Z0 ) hZ (hw _ (List.mem_of_getElem? (i := 6) rfl)) (hw _ (List.mem_of_getElem? (i := 5) rfl)) (by decide) (by decide)) (g := (mkF m 63 #[.val (.int p1), .val (.int p2), .val (.long (v0_10_0 p1)), .second, .val (.int (v0_24_1 p1)), .val (.int (v0_40_2 p1)), .val (.int (v0_52_3 p2)), .val (.int (f1 (v0_52_3 p2))), .unset] [(.int (47 : Int32))])) rfl (by rw [hml]; rfl) (argsL := [(.int (47 : Int32))]) (rest := []) (lenOf pd_0_0 rfl) rfl (by show 2 * 0 + _ ≤ _; exact Nat.le_of_eq rfl) (hb hby at_63) (fun _ _ => ⟨rfl, e4, (by decide : 0 + 0 ≤ _), (by decide : 0 + 0 ≤ _)⟩)
  dsimp only [Pt.U, Pt.locs, Pt.cells, Pt.slots] at X5 l5 y5 z5 st5 hQ5
  subst l5 y5 z5
  obtain ⟨rfl, N5q, er5⟩ := hQ5
  have e5 : T5.heap = h0 := er5
  have N5 := Fr.app N4 N5q
  refine Goes.via st5 ?_
  show Goes p e below (T5.setTop (mkF m 66 #[.val (.int p1), .val (.int p2), .val (.long (v0_10_0 p1)), .second, .val (.int (v0_24_1 p1)), .val (.int (v0_40_2 p1)), .val (.int (v0_52_3 p2)), .val (.int (f1 (v0_52_3 p2))), .unset] [(.int (f1 (47 : Int32)))])) _
  by_cases hc66_6 : (f1 (47 : Int32)) = (0 : Int32)
  · refine Goes.via (fun t k => XS.ifNo X5.here hx rfl (hb hby at_66) rfl ((if0 _ _).trans (teq hc66_6).2) k) ?_
    show Goes p e below (T5.setTop (mkF m 69 #[.val (.int p1), .val (.int p2), .val (.long (v0_10_0 p1)), .second, .val (.int (v0_24_1 p1)), .val (.int (v0_40_2 p1)), .val (.int (v0_52_3 p2)), .val (.int (f1 (v0_52_3 p2))), .unset] [])) _
    refine Goes.via (fun t k => XS.bipush X5.here hx rfl (hb hby at_69) k) ?_
    show Goes p e below (T5.setTop (mkF m 71 #[.val (.int p1), .val (.int p2), .val (.long (v0_10_0 p1)), .second, .val (.int (v0_24_1 p1)), .val (.int (v0_40_2 p1)), .val (.int (v0_52_3 p2)), .val (.int (f1 (v0_52_3 p2))), .unset] [(.int (58 : Int32))])) _
    obtain ⟨_, _, ⟨T7, L7, k7, n7⟩, -, X7, ⟨Lc7, hQ7, l7, y7, z7⟩, st7⟩ := Jvm.LawKit.callS X5 hx (y := (⟨"cascabel/writer/TokenText", "isDigit", "(I)Z"⟩ : MethodName)) hown (mvT hZ (hw _ (List.mem_of_getElem? (i := 3) rfl))) (mvT hZ (hw _ (List.mem_of_getElem? (i := 4) rfl))) (mvT hZ (hw _ (List.mem_of_getElem? (i := 5) rfl))) (mvT hZ (hw _ (List.mem_of_getElem? (i := 6) rfl))) (by decide) (backOf (W := 0) (rm1 l Z a0 hw [] (58 : Int32) h0 n0 Z0 ) hZ (hw _ (List.mem_of_getElem? (i := 6) rfl)) (hw _ (List.mem_of_getElem? (i := 5) rfl)) (by decide) (by decide)) (g := (mkF m 71 #[.val (.int p1), .val (.int p2), .val (.long (v0_10_0 p1)), .second, .val (.int (v0_24_1 p1)), .val (.int (v0_40_2 p1)), .val (.int (v0_52_3 p2)), .val (.int (f1 (v0_52_3 p2))), .unset] [(.int (58 : Int32))])) rfl (by rw [hml]; rfl) (argsL := [(.int (58 : Int32))]) (rest := []) (lenOf pd_0_0 rfl) rfl (by show 2 * 0 + _ ≤ _; exact Nat.le_of_eq rfl) (hb hby at_71) (fun _ _ => ⟨rfl, e5, (by decide : 0 + 0 ≤ _), (by decide : 0 + 0 ≤ _)⟩)
    dsimp only [Pt.U, Pt.locs, Pt.cells, Pt.slots] at X7 l7 y7 z7 st7 hQ7
    subst l7 y7 z7
    obtain ⟨rfl, N7q, er7⟩ := hQ7
    have e7 : T7.heap = h0 := er7
    have N7 := Fr.app N5 N7q
    refine Goes.via st7 ?_
    show Goes p e below (T7.setTop (mkF m 74 #[.val (.int p1), .val (.int p2), .val (.long (v0_10_0 p1)), .second, .val (.int (v0_24_1 p1)), .val (.int (v0_40_2 p1)), .val (.int (v0_52_3 p2)), .val (.int (f1 (v0_52_3 p2))), .unset] [(.int (f1 (58 : Int32)))])) _
    by_cases hc74_8 : (f1 (58 : Int32)) = (0 : Int32)
    · refine Goes.via (fun t k => XS.ifNo X7.here hx rfl (hb hby at_74) rfl ((if0 _ _).trans (teq hc74_8).2) k) ?_
      show Goes p e below (T7.setTop (mkF m 77 #[.val (.int p1), .val (.int p2), .val (.long (v0_10_0 p1)), .second, .val (.int (v0_24_1 p1)), .val (.int (v0_40_2 p1)), .val (.int (v0_52_3 p2)), .val (.int (f1 (v0_52_3 p2))), .unset] [])) _
      refine Goes.via (fun t k => XS.sipush X7.here hx rfl (hb hby at_77) k) ?_
      show Goes p e below (T7.setTop (mkF m 80 #[.val (.int p1), .val (.int p2), .val (.long (v0_10_0 p1)), .second, .val (.int (v0_24_1 p1)), .val (.int (v0_40_2 p1)), .val (.int (v0_52_3 p2)), .val (.int (f1 (v0_52_3 p2))), .unset] [(.int (1632 : Int32))])) _
      obtain ⟨_, _, ⟨T9, L9, k9, n9⟩, -, X9, ⟨Lc9, hQ9, l9, y9, z9⟩, st9⟩ := Jvm.LawKit.callS X7 hx (y := (⟨"cascabel/writer/TokenText", "isDigit", "(I)Z"⟩ : MethodName)) hown (mvT hZ (hw _ (List.mem_of_getElem? (i := 3) rfl))) (mvT hZ (hw _ (List.mem_of_getElem? (i := 4) rfl))) (mvT hZ (hw _ (List.mem_of_getElem? (i := 5) rfl))) (mvT hZ (hw _ (List.mem_of_getElem? (i := 6) rfl))) (by decide) (backOf (W := 0) (rm1 l Z a0 hw [] (1632 : Int32) h0 n0 Z0 ) hZ (hw _ (List.mem_of_getElem? (i := 6) rfl)) (hw _ (List.mem_of_getElem? (i := 5) rfl)) (by decide) (by decide)) (g := (mkF m 80 #[.val (.int p1), .val (.int p2), .val (.long (v0_10_0 p1)), .second, .val (.int (v0_24_1 p1)), .val (.int (v0_40_2 p1)), .val (.int (v0_52_3 p2)), .val (.int (f1 (v0_52_3 p2))), .unset] [(.int (1632 : Int32))])) rfl (by rw [hml]; rfl) (argsL := [(.int (1632 : Int32))]) (rest := []) (lenOf pd_0_0 rfl) rfl (by show 2 * 0 + _ ≤ _; exact Nat.le_of_eq rfl) (hb hby at_80) (fun _ _ => ⟨rfl, e7, (by decide : 0 + 0 ≤ _), (by decide : 0 + 0 ≤ _)⟩)
      dsimp only [Pt.U, Pt.locs, Pt.cells, Pt.slots] at X9 l9 y9 z9 st9 hQ9
      subst l9 y9 z9
      obtain ⟨rfl, N9q, er9⟩ := hQ9
      have e9 : T9.heap = h0 := er9
      have N9 := Fr.app N7 N9q
      refine Goes.via st9 ?_
      show Goes p e below (T9.setTop (mkF m 83 #[.val (.int p1), .val (.int p2), .val (.long (v0_10_0 p1)), .second, .val (.int (v0_24_1 p1)), .val (.int (v0_40_2 p1)), .val (.int (v0_52_3 p2)), .val (.int (f1 (v0_52_3 p2))), .unset] [(.int (f1 (1632 : Int32)))])) _
      refine Goes.via (next := T9.setTop (mkF m 91 #[.val (.int p1), .val (.int p2), .val (.long (v0_10_0 p1)), .second, .val (.int (v0_24_1 p1)), .val (.int (v0_40_2 p1)), .val (.int (v0_52_3 p2)), .val (.int (f1 (v0_52_3 p2))), .unset] [(.int (v0_91_4))])) (fun t k => ?_) ?_
      · by_cases hc83_10 : (f1 (1632 : Int32)) = (0 : Int32)
        · refine XS.ifNo X9.here hx rfl (hb hby at_83) rfl ((if0 _ _).trans (teq hc83_10).2) ?_
          show Steps p.tables e below (T9.setTop (mkF m 86 #[.val (.int p1), .val (.int p2), .val (.long (v0_10_0 p1)), .second, .val (.int (v0_24_1 p1)), .val (.int (v0_40_2 p1)), .val (.int (v0_52_3 p2)), .val (.int (f1 (v0_52_3 p2))), .unset] [])) _
          refine XS.iconst X9.here hx rfl (hb hby at_86) ?_
          show Steps p.tables e below (T9.setTop (mkF m 87 #[.val (.int p1), .val (.int p2), .val (.long (v0_10_0 p1)), .second, .val (.int (v0_24_1 p1)), .val (.int (v0_40_2 p1)), .val (.int (v0_52_3 p2)), .val (.int (f1 (v0_52_3 p2))), .unset] [(.int (1 : Int32))])) _
          refine XS.goto X9.here hx rfl (pc0 := 87) (pc' := 91) rfl (hb hby at_87) (by decide) (by decide) ?_
          show Steps p.tables e below (T9.setTop (mkF m 91 #[.val (.int p1), .val (.int p2), .val (.long (v0_10_0 p1)), .second, .val (.int (v0_24_1 p1)), .val (.int (v0_40_2 p1)), .val (.int (v0_52_3 p2)), .val (.int (f1 (v0_52_3 p2))), .unset] [(.int (1 : Int32))])) _
          simpa only [v0_91_4, if_pos hc83_10] using k
        · refine XS.ifYes X9.here hx rfl (pc0 := 83) (pc' := 90) rfl (hb hby at_83) rfl ((if0 _ _).trans (feq hc83_10).2) (by decide) (by decide) ?_
          show Steps p.tables e below (T9.setTop (mkF m 90 #[.val (.int p1), .val (.int p2), .val (.long (v0_10_0 p1)), .second, .val (.int (v0_24_1 p1)), .val (.int (v0_40_2 p1)), .val (.int (v0_52_3 p2)), .val (.int (f1 (v0_52_3 p2))), .unset] [])) _
          refine XS.iconst X9.here hx rfl (hb hby at_90) ?_
          show Steps p.tables e below (T9.setTop (mkF m 91 #[.val (.int p1), .val (.int p2), .val (.long (v0_10_0 p1)), .second, .val (.int (v0_24_1 p1)), .val (.int (v0_40_2 p1)), .val (.int (v0_52_3 p2)), .val (.int (f1 (v0_52_3 p2))), .unset] [(.int (0 : Int32))])) _
          simpa only [v0_91_4, if_neg hc83_10] using k
      show Goes p e below (T9.setTop (mkF m 91 #[.val (.int p1), .val (.int p2), .val (.long (v0_10_0 p1)), .second, .val (.int (v0_24_1 p1)), .val (.int (v0_40_2 p1)), .val (.int (v0_52_3 p2)), .val (.int (f1 (v0_52_3 p2))), .unset] [(.int (v0_91_4))])) _
      refine Goes.via (fun t k => XS.istore X9.here hx rfl (hb hby at_91) rfl (l' := #[.val (.int p1), .val (.int p2), .val (.long (v0_10_0 p1)), .second, .val (.int (v0_24_1 p1)), .val (.int (v0_40_2 p1)), .val (.int (v0_52_3 p2)), .val (.int (f1 (v0_52_3 p2))), .val (.int (v0_91_4))]) rfl k) ?_
      show Goes p e below (T9.setTop (mkF m 93 #[.val (.int p1), .val (.int p2), .val (.long (v0_10_0 p1)), .second, .val (.int (v0_24_1 p1)), .val (.int (v0_40_2 p1)), .val (.int (v0_52_3 p2)), .val (.int (f1 (v0_52_3 p2))), .val (.int (v0_91_4))] [])) _
      refine Goes.via (fun t k => XS.iload X9.here hx rfl (hb hby at_93) rfl k) ?_
      show Goes p e below (T9.setTop (mkF m 95 #[.val (.int p1), .val (.int p2), .val (.long (v0_10_0 p1)), .second, .val (.int (v0_24_1 p1)), .val (.int (v0_40_2 p1)), .val (.int (v0_52_3 p2)), .val (.int (f1 (v0_52_3 p2))), .val (.int (v0_91_4))] [(.int (v0_40_2 p1))])) _
      refine Goes.via (next := T9.setTop (mkF m 113 #[.val (.int p1), .val (.int p2), .val (.long (v0_10_0 p1)), .second, .val (.int (v0_24_1 p1)), .val (.int (v0_40_2 p1)), .val (.int (v0_52_3 p2)), .val (.int (f1 (v0_52_3 p2))), .val (.int (v0_91_4))] [(.int (v0_113_5 p1 p2))])) (fun t k => ?_) ?_
      · by_cases hc95_11 : (v0_40_2 p1) = (0 : Int32)
        · refine XS.ifYes X9.here hx rfl (pc0 := 95) (pc' := 112) rfl (hb hby at_95) rfl ((if0 _ _).trans (teq hc95_11).1) (by decide) (by decide) ?_
          show Steps p.tables e below (T9.setTop (mkF m 112 #[.val (.int p1), .val (.int p2), .val (.long (v0_10_0 p1)), .second, .val (.int (v0_24_1 p1)), .val (.int (v0_40_2 p1)), .val (.int (v0_52_3 p2)), .val (.int (f1 (v0_52_3 p2))), .val (.int (v0_91_4))] [])) _
          refine XS.iconst X9.here hx rfl (hb hby at_112) ?_
          show Steps p.tables e below (T9.setTop (mkF m 113 #[.val (.int p1), .val (.int p2), .val (.long (v0_10_0 p1)), .second, .val (.int (v0_24_1 p1)), .val (.int (v0_40_2 p1)), .val (.int (v0_52_3 p2)), .val (.int (f1 (v0_52_3 p2))), .val (.int (v0_91_4))] [(.int (0 : Int32))])) _
          simpa only [v0_113_5, if_pos hc95_11] using k
        · refine XS.ifNo X9.here hx rfl (hb hby at_95) rfl ((if0 _ _).trans (feq hc95_11).1) ?_
          show Steps p.tables e below (T9.setTop (mkF m 98 #[.val (.int p1), .val (.int p2), .val (.long (v0_10_0 p1)), .second, .val (.int (v0_24_1 p1)), .val (.int (v0_40_2 p1)), .val (.int (v0_52_3 p2)), .val (.int (f1 (v0_52_3 p2))), .val (.int (v0_91_4))] [])) _
          refine XS.iload X9.here hx rfl (hb hby at_98) rfl ?_
          show Steps p.tables e below (T9.setTop (mkF m 100 #[.val (.int p1), .val (.int p2), .val (.long (v0_10_0 p1)), .second, .val (.int (v0_24_1 p1)), .val (.int (v0_40_2 p1)), .val (.int (v0_52_3 p2)), .val (.int (f1 (v0_52_3 p2))), .val (.int (v0_91_4))] [(.int (f1 (v0_52_3 p2)))])) _
          by_cases hc100_12 : (f1 (v0_52_3 p2)) = (0 : Int32)
          · refine XS.ifYes X9.here hx rfl (pc0 := 100) (pc' := 112) rfl (hb hby at_100) rfl ((if0 _ _).trans (teq hc100_12).1) (by decide) (by decide) ?_
            show Steps p.tables e below (T9.setTop (mkF m 112 #[.val (.int p1), .val (.int p2), .val (.long (v0_10_0 p1)), .second, .val (.int (v0_24_1 p1)), .val (.int (v0_40_2 p1)), .val (.int (v0_52_3 p2)), .val (.int (f1 (v0_52_3 p2))), .val (.int (v0_91_4))] [])) _
            refine XS.iconst X9.here hx rfl (hb hby at_112) ?_
            show Steps p.tables e below (T9.setTop (mkF m 113 #[.val (.int p1), .val (.int p2), .val (.long (v0_10_0 p1)), .second, .val (.int (v0_24_1 p1)), .val (.int (v0_40_2 p1)), .val (.int (v0_52_3 p2)), .val (.int (f1 (v0_52_3 p2))), .val (.int (v0_91_4))] [(.int (0 : Int32))])) _
            simpa only [v0_113_5, if_neg hc95_11, if_pos hc100_12] using k
          · refine XS.ifNo X9.here hx rfl (hb hby at_100) rfl ((if0 _ _).trans (feq hc100_12).1) ?_
            show Steps p.tables e below (T9.setTop (mkF m 103 #[.val (.int p1), .val (.int p2), .val (.long (v0_10_0 p1)), .second, .val (.int (v0_24_1 p1)), .val (.int (v0_40_2 p1)), .val (.int (v0_52_3 p2)), .val (.int (f1 (v0_52_3 p2))), .val (.int (v0_91_4))] [])) _
            refine XS.iload X9.here hx rfl (hb hby at_103) rfl ?_
            show Steps p.tables e below (T9.setTop (mkF m 105 #[.val (.int p1), .val (.int p2), .val (.long (v0_10_0 p1)), .second, .val (.int (v0_24_1 p1)), .val (.int (v0_40_2 p1)), .val (.int (v0_52_3 p2)), .val (.int (f1 (v0_52_3 p2))), .val (.int (v0_91_4))] [(.int (v0_91_4))])) _
            by_cases hc105_13 : (v0_91_4) = (0 : Int32)
            · refine XS.ifYes X9.here hx rfl (pc0 := 105) (pc' := 112) rfl (hb hby at_105) rfl ((if0 _ _).trans (teq hc105_13).1) (by decide) (by decide) ?_
              show Steps p.tables e below (T9.setTop (mkF m 112 #[.val (.int p1), .val (.int p2), .val (.long (v0_10_0 p1)), .second, .val (.int (v0_24_1 p1)), .val (.int (v0_40_2 p1)), .val (.int (v0_52_3 p2)), .val (.int (f1 (v0_52_3 p2))), .val (.int (v0_91_4))] [])) _
              refine XS.iconst X9.here hx rfl (hb hby at_112) ?_
              show Steps p.tables e below (T9.setTop (mkF m 113 #[.val (.int p1), .val (.int p2), .val (.long (v0_10_0 p1)), .second, .val (.int (v0_24_1 p1)), .val (.int (v0_40_2 p1)), .val (.int (v0_52_3 p2)), .val (.int (f1 (v0_52_3 p2))), .val (.int (v0_91_4))] [(.int (0 : Int32))])) _
              simpa only [v0_113_5, if_neg hc95_11, if_neg hc100_12, if_pos hc105_13] using k
            · refine XS.ifNo X9.here hx rfl (hb hby at_105) rfl ((if0 _ _).trans (feq hc105_13).1) ?_
              show Steps p.tables e below (T9.setTop (mkF m 108 #[.val (.int p1), .val (.int p2), .val (.long (v0_10_0 p1)), .second, .val (.int (v0_24_1 p1)), .val (.int (v0_40_2 p1)), .val (.int (v0_52_3 p2)), .val (.int (f1 (v0_52_3 p2))), .val (.int (v0_91_4))] [])) _
              refine XS.iconst X9.here hx rfl (hb hby at_108) ?_
              show Steps p.tables e below (T9.setTop (mkF m 109 #[.val (.int p1), .val (.int p2), .val (.long (v0_10_0 p1)), .second, .val (.int (v0_24_1 p1)), .val (.int (v0_40_2 p1)), .val (.int (v0_52_3 p2)), .val (.int (f1 (v0_52_3 p2))), .val (.int (v0_91_4))] [(.int (1 : Int32))])) _
              refine XS.goto X9.here hx rfl (pc0 := 109) (pc' := 113) rfl (hb hby at_109) (by decide) (by decide) ?_
              show Steps p.tables e below (T9.setTop (mkF m 113 #[.val (.int p1), .val (.int p2), .val (.long (v0_10_0 p1)), .second, .val (.int (v0_24_1 p1)), .val (.int (v0_40_2 p1)), .val (.int (v0_52_3 p2)), .val (.int (f1 (v0_52_3 p2))), .val (.int (v0_91_4))] [(.int (1 : Int32))])) _
              simpa only [v0_113_5, if_neg hc95_11, if_neg hc100_12, if_neg hc105_13] using k
      show Goes p e below (T9.setTop (mkF m 113 #[.val (.int p1), .val (.int p2), .val (.long (v0_10_0 p1)), .second, .val (.int (v0_24_1 p1)), .val (.int (v0_40_2 p1)), .val (.int (v0_52_3 p2)), .val (.int (f1 (v0_52_3 p2))), .val (.int (v0_91_4))] [(.int (v0_113_5 p1 p2))])) _
      obtain ⟨fs, hr, hrun, hended, hW, hsame⟩ := X9.leave (v := some (.int (nar .boolean (v0_113_5 p1 p2)))) (fun h => by rw [Bd.returns] at h; cases h)
      refine ⟨_, _, ?_, hrun, hended, _, _, rfl, ?_, ⟨_, rfl⟩, hW, hsame.mono (by decide) (by decide)⟩
      · exact retN X9 hx (t := .boolean) Bd.returns (by simp) (hb hby at_113) hr
      · show Q0 Z p1 p2 h0 n0 _ T9.heap _
        rw [e9]
        exact ⟨congrArg some (congrArg _ (by simp only [f0, if_pos hc66_6, if_pos hc74_8])), N9, rfl⟩
    · refine Goes.via (fun t k => XS.ifYes X7.here hx rfl (pc0 := 74) (pc' := 90) rfl (hb hby at_74) rfl ((if0 _ _).trans (feq hc74_8).2) (by decide) (by decide) k) ?_
      show Goes p e below (T7.setTop (mkF m 90 #[.val (.int p1), .val (.int p2), .val (.long (v0_10_0 p1)), .second, .val (.int (v0_24_1 p1)), .val (.int (v0_40_2 p1)), .val (.int (v0_52_3 p2)), .val (.int (f1 (v0_52_3 p2))), .unset] [])) _
      refine Goes.via (fun t k => XS.iconst X7.here hx rfl (hb hby at_90) k) ?_
      show Goes p e below (T7.setTop (mkF m 91 #[.val (.int p1), .val (.int p2), .val (.long (v0_10_0 p1)), .second, .val (.int (v0_24_1 p1)), .val (.int (v0_40_2 p1)), .val (.int (v0_52_3 p2)), .val (.int (f1 (v0_52_3 p2))), .unset] [(.int (0 : Int32))])) _
      refine Goes.via (fun t k => XS.istore X7.here hx rfl (hb hby at_91) rfl (l' := #[.val (.int p1), .val (.int p2), .val (.long (v0_10_0 p1)), .second, .val (.int (v0_24_1 p1)), .val (.int (v0_40_2 p1)), .val (.int (v0_52_3 p2)), .val (.int (f1 (v0_52_3 p2))), .val (.int (0 : Int32))]) rfl k) ?_
      show Goes p e below (T7.setTop (mkF m 93 #[.val (.int p1), .val (.int p2), .val (.long (v0_10_0 p1)), .second, .val (.int (v0_24_1 p1)), .val (.int (v0_40_2 p1)), .val (.int (v0_52_3 p2)), .val (.int (f1 (v0_52_3 p2))), .val (.int (0 : Int32))] [])) _
      refine Goes.via (fun t k => XS.iload X7.here hx rfl (hb hby at_93) rfl k) ?_
      show Goes p e below (T7.setTop (mkF m 95 #[.val (.int p1), .val (.int p2), .val (.long (v0_10_0 p1)), .second, .val (.int (v0_24_1 p1)), .val (.int (v0_40_2 p1)), .val (.int (v0_52_3 p2)), .val (.int (f1 (v0_52_3 p2))), .val (.int (0 : Int32))] [(.int (v0_40_2 p1))])) _
      refine Goes.via (next := T7.setTop (mkF m 113 #[.val (.int p1), .val (.int p2), .val (.long (v0_10_0 p1)), .second, .val (.int (v0_24_1 p1)), .val (.int (v0_40_2 p1)), .val (.int (v0_52_3 p2)), .val (.int (f1 (v0_52_3 p2))), .val (.int (0 : Int32))] [(.int (0 : Int32))])) (fun t k => ?_) ?_
      · by_cases hc95_14 : (v0_40_2 p1) = (0 : Int32)
        · refine XS.ifYes X7.here hx rfl (pc0 := 95) (pc' := 112) rfl (hb hby at_95) rfl ((if0 _ _).trans (teq hc95_14).1) (by decide) (by decide) ?_
          show Steps p.tables e below (T7.setTop (mkF m 112 #[.val (.int p1), .val (.int p2), .val (.long (v0_10_0 p1)), .second, .val (.int (v0_24_1 p1)), .val (.int (v0_40_2 p1)), .val (.int (v0_52_3 p2)), .val (.int (f1 (v0_52_3 p2))), .val (.int (0 : Int32))] [])) _
          refine XS.iconst X7.here hx rfl (hb hby at_112) ?_
          show Steps p.tables e below (T7.setTop (mkF m 113 #[.val (.int p1), .val (.int p2), .val (.long (v0_10_0 p1)), .second, .val (.int (v0_24_1 p1)), .val (.int (v0_40_2 p1)), .val (.int (v0_52_3 p2)), .val (.int (f1 (v0_52_3 p2))), .val (.int (0 : Int32))] [(.int (0 : Int32))])) _
          simpa only [if_pos hc95_14] using k
        · refine XS.ifNo X7.here hx rfl (hb hby at_95) rfl ((if0 _ _).trans (feq hc95_14).1) ?_
          show Steps p.tables e below (T7.setTop (mkF m 98 #[.val (.int p1), .val (.int p2), .val (.long (v0_10_0 p1)), .second, .val (.int (v0_24_1 p1)), .val (.int (v0_40_2 p1)), .val (.int (v0_52_3 p2)), .val (.int (f1 (v0_52_3 p2))), .val (.int (0 : Int32))] [])) _
          refine XS.iload X7.here hx rfl (hb hby at_98) rfl ?_
          show Steps p.tables e below (T7.setTop (mkF m 100 #[.val (.int p1), .val (.int p2), .val (.long (v0_10_0 p1)), .second, .val (.int (v0_24_1 p1)), .val (.int (v0_40_2 p1)), .val (.int (v0_52_3 p2)), .val (.int (f1 (v0_52_3 p2))), .val (.int (0 : Int32))] [(.int (f1 (v0_52_3 p2)))])) _
          by_cases hc100_15 : (f1 (v0_52_3 p2)) = (0 : Int32)
          · refine XS.ifYes X7.here hx rfl (pc0 := 100) (pc' := 112) rfl (hb hby at_100) rfl ((if0 _ _).trans (teq hc100_15).1) (by decide) (by decide) ?_
            show Steps p.tables e below (T7.setTop (mkF m 112 #[.val (.int p1), .val (.int p2), .val (.long (v0_10_0 p1)), .second, .val (.int (v0_24_1 p1)), .val (.int (v0_40_2 p1)), .val (.int (v0_52_3 p2)), .val (.int (f1 (v0_52_3 p2))), .val (.int (0 : Int32))] [])) _
            refine XS.iconst X7.here hx rfl (hb hby at_112) ?_
            show Steps p.tables e below (T7.setTop (mkF m 113 #[.val (.int p1), .val (.int p2), .val (.long (v0_10_0 p1)), .second, .val (.int (v0_24_1 p1)), .val (.int (v0_40_2 p1)), .val (.int (v0_52_3 p2)), .val (.int (f1 (v0_52_3 p2))), .val (.int (0 : Int32))] [(.int (0 : Int32))])) _
            simpa only [if_neg hc95_14, if_pos hc100_15] using k
          · refine XS.ifNo X7.here hx rfl (hb hby at_100) rfl ((if0 _ _).trans (feq hc100_15).1) ?_
            show Steps p.tables e below (T7.setTop (mkF m 103 #[.val (.int p1), .val (.int p2), .val (.long (v0_10_0 p1)), .second, .val (.int (v0_24_1 p1)), .val (.int (v0_40_2 p1)), .val (.int (v0_52_3 p2)), .val (.int (f1 (v0_52_3 p2))), .val (.int (0 : Int32))] [])) _
            refine XS.iload X7.here hx rfl (hb hby at_103) rfl ?_
            show Steps p.tables e below (T7.setTop (mkF m 105 #[.val (.int p1), .val (.int p2), .val (.long (v0_10_0 p1)), .second, .val (.int (v0_24_1 p1)), .val (.int (v0_40_2 p1)), .val (.int (v0_52_3 p2)), .val (.int (f1 (v0_52_3 p2))), .val (.int (0 : Int32))] [(.int (0 : Int32))])) _
            refine XS.ifYes X7.here hx rfl (pc0 := 105) (pc' := 112) rfl (hb hby at_105) rfl ((if0 _ _).trans (teq rfl).1) (by decide) (by decide) ?_
            show Steps p.tables e below (T7.setTop (mkF m 112 #[.val (.int p1), .val (.int p2), .val (.long (v0_10_0 p1)), .second, .val (.int (v0_24_1 p1)), .val (.int (v0_40_2 p1)), .val (.int (v0_52_3 p2)), .val (.int (f1 (v0_52_3 p2))), .val (.int (0 : Int32))] [])) _
            refine XS.iconst X7.here hx rfl (hb hby at_112) ?_
            show Steps p.tables e below (T7.setTop (mkF m 113 #[.val (.int p1), .val (.int p2), .val (.long (v0_10_0 p1)), .second, .val (.int (v0_24_1 p1)), .val (.int (v0_40_2 p1)), .val (.int (v0_52_3 p2)), .val (.int (f1 (v0_52_3 p2))), .val (.int (0 : Int32))] [(.int (0 : Int32))])) _
            simpa only [if_neg hc95_14, if_neg hc100_15] using k
      show Goes p e below (T7.setTop (mkF m 113 #[.val (.int p1), .val (.int p2), .val (.long (v0_10_0 p1)), .second, .val (.int (v0_24_1 p1)), .val (.int (v0_40_2 p1)), .val (.int (v0_52_3 p2)), .val (.int (f1 (v0_52_3 p2))), .val (.int (0 : Int32))] [(.int (0 : Int32))])) _
      obtain ⟨fs, hr, hrun, hended, hW, hsame⟩ := X7.leave (v := some (.int (0 : Int32))) (fun h => by rw [Bd.returns] at h; cases h)
      refine ⟨_, _, ?_, hrun, hended, _, _, rfl, ?_, ⟨_, rfl⟩, hW, hsame.mono (by decide) (by decide)⟩
      · exact retN X7 hx (t := .boolean) Bd.returns (by simp) (hb hby at_113) hr
      · show Q0 Z p1 p2 h0 n0 _ T7.heap _
        rw [e7]
        exact ⟨congrArg some (congrArg _ (by simp only [f0, if_pos hc66_6, if_neg hc74_8])), N7, rfl⟩
  · refine Goes.via (fun t k => XS.ifYes X5.here hx rfl (pc0 := 66) (pc' := 90) rfl (hb hby at_66) rfl ((if0 _ _).trans (feq hc66_6).2) (by decide) (by decide) k) ?_
    show Goes p e below (T5.setTop (mkF m 90 #[.val (.int p1), .val (.int p2), .val (.long (v0_10_0 p1)), .second, .val (.int (v0_24_1 p1)), .val (.int (v0_40_2 p1)), .val (.int (v0_52_3 p2)), .val (.int (f1 (v0_52_3 p2))), .unset] [])) _
    refine Goes.via (fun t k => XS.iconst X5.here hx rfl (hb hby at_90) k) ?_
    show Goes p e below (T5.setTop (mkF m 91 #[.val (.int p1), .val (.int p2), .val (.long (v0_10_0 p1)), .second, .val (.int (v0_24_1 p1)), .val (.int (v0_40_2 p1)), .val (.int (v0_52_3 p2)), .val (.int (f1 (v0_52_3 p2))), .unset] [(.int (0 : Int32))])) _
    refine Goes.via (fun t k => XS.istore X5.here hx rfl (hb hby at_91) rfl (l' := #[.val (.int p1), .val (.int p2), .val (.long (v0_10_0 p1)), .second, .val (.int (v0_24_1 p1)), .val (.int (v0_40_2 p1)), .val (.int (v0_52_3 p2)), .val (.int (f1 (v0_52_3 p2))), .val (.int (0 : Int32))]) rfl k) ?_
    show Goes p e below (T5.setTop (mkF m 93 #[.val (.int p1), .val (.int p2), .val (.long (v0_10_0 p1)), .second, .val (.int (v0_24_1 p1)), .val (.int (v0_40_2 p1)), .val (.int (v0_52_3 p2)), .val (.int (f1 (v0_52_3 p2))), .val (.int (0 : Int32))] [])) _
    refine Goes.via (fun t k => XS.iload X5.here hx rfl (hb hby at_93) rfl k) ?_
    show Goes p e below (T5.setTop (mkF m 95 #[.val (.int p1), .val (.int p2), .val (.long (v0_10_0 p1)), .second, .val (.int (v0_24_1 p1)), .val (.int (v0_40_2 p1)), .val (.int (v0_52_3 p2)), .val (.int (f1 (v0_52_3 p2))), .val (.int (0 : Int32))] [(.int (v0_40_2 p1))])) _
    refine Goes.via (next := T5.setTop (mkF m 113 #[.val (.int p1), .val (.int p2), .val (.long (v0_10_0 p1)), .second, .val (.int (v0_24_1 p1)), .val (.int (v0_40_2 p1)), .val (.int (v0_52_3 p2)), .val (.int (f1 (v0_52_3 p2))), .val (.int (0 : Int32))] [(.int (0 : Int32))])) (fun t k => ?_) ?_
    · by_cases hc95_16 : (v0_40_2 p1) = (0 : Int32)
      · refine XS.ifYes X5.here hx rfl (pc0 := 95) (pc' := 112) rfl (hb hby at_95) rfl ((if0 _ _).trans (teq hc95_16).1) (by decide) (by decide) ?_
        show Steps p.tables e below (T5.setTop (mkF m 112 #[.val (.int p1), .val (.int p2), .val (.long (v0_10_0 p1)), .second, .val (.int (v0_24_1 p1)), .val (.int (v0_40_2 p1)), .val (.int (v0_52_3 p2)), .val (.int (f1 (v0_52_3 p2))), .val (.int (0 : Int32))] [])) _
        refine XS.iconst X5.here hx rfl (hb hby at_112) ?_
        show Steps p.tables e below (T5.setTop (mkF m 113 #[.val (.int p1), .val (.int p2), .val (.long (v0_10_0 p1)), .second, .val (.int (v0_24_1 p1)), .val (.int (v0_40_2 p1)), .val (.int (v0_52_3 p2)), .val (.int (f1 (v0_52_3 p2))), .val (.int (0 : Int32))] [(.int (0 : Int32))])) _
        simpa only [if_pos hc95_16] using k
      · refine XS.ifNo X5.here hx rfl (hb hby at_95) rfl ((if0 _ _).trans (feq hc95_16).1) ?_
        show Steps p.tables e below (T5.setTop (mkF m 98 #[.val (.int p1), .val (.int p2), .val (.long (v0_10_0 p1)), .second, .val (.int (v0_24_1 p1)), .val (.int (v0_40_2 p1)), .val (.int (v0_52_3 p2)), .val (.int (f1 (v0_52_3 p2))), .val (.int (0 : Int32))] [])) _
        refine XS.iload X5.here hx rfl (hb hby at_98) rfl ?_
        show Steps p.tables e below (T5.setTop (mkF m 100 #[.val (.int p1), .val (.int p2), .val (.long (v0_10_0 p1)), .second, .val (.int (v0_24_1 p1)), .val (.int (v0_40_2 p1)), .val (.int (v0_52_3 p2)), .val (.int (f1 (v0_52_3 p2))), .val (.int (0 : Int32))] [(.int (f1 (v0_52_3 p2)))])) _
        by_cases hc100_17 : (f1 (v0_52_3 p2)) = (0 : Int32)
        · refine XS.ifYes X5.here hx rfl (pc0 := 100) (pc' := 112) rfl (hb hby at_100) rfl ((if0 _ _).trans (teq hc100_17).1) (by decide) (by decide) ?_
          show Steps p.tables e below (T5.setTop (mkF m 112 #[.val (.int p1), .val (.int p2), .val (.long (v0_10_0 p1)), .second, .val (.int (v0_24_1 p1)), .val (.int (v0_40_2 p1)), .val (.int (v0_52_3 p2)), .val (.int (f1 (v0_52_3 p2))), .val (.int (0 : Int32))] [])) _
          refine XS.iconst X5.here hx rfl (hb hby at_112) ?_
          show Steps p.tables e below (T5.setTop (mkF m 113 #[.val (.int p1), .val (.int p2), .val (.long (v0_10_0 p1)), .second, .val (.int (v0_24_1 p1)), .val (.int (v0_40_2 p1)), .val (.int (v0_52_3 p2)), .val (.int (f1 (v0_52_3 p2))), .val (.int (0 : Int32))] [(.int (0 : Int32))])) _
          simpa only [if_neg hc95_16, if_pos hc100_17] using k
        · refine XS.ifNo X5.here hx rfl (hb hby at_100) rfl ((if0 _ _).trans (feq hc100_17).1) ?_
          show Steps p.tables e below (T5.setTop (mkF m 103 #[.val (.int p1), .val (.int p2), .val (.long (v0_10_0 p1)), .second, .val (.int (v0_24_1 p1)), .val (.int (v0_40_2 p1)), .val (.int (v0_52_3 p2)), .val (.int (f1 (v0_52_3 p2))), .val (.int (0 : Int32))] [])) _
          refine XS.iload X5.here hx rfl (hb hby at_103) rfl ?_
          show Steps p.tables e below (T5.setTop (mkF m 105 #[.val (.int p1), .val (.int p2), .val (.long (v0_10_0 p1)), .second, .val (.int (v0_24_1 p1)), .val (.int (v0_40_2 p1)), .val (.int (v0_52_3 p2)), .val (.int (f1 (v0_52_3 p2))), .val (.int (0 : Int32))] [(.int (0 : Int32))])) _
          refine XS.ifYes X5.here hx rfl (pc0 := 105) (pc' := 112) rfl (hb hby at_105) rfl ((if0 _ _).trans (teq rfl).1) (by decide) (by decide) ?_
          show Steps p.tables e below (T5.setTop (mkF m 112 #[.val (.int p1), .val (.int p2), .val (.long (v0_10_0 p1)), .second, .val (.int (v0_24_1 p1)), .val (.int (v0_40_2 p1)), .val (.int (v0_52_3 p2)), .val (.int (f1 (v0_52_3 p2))), .val (.int (0 : Int32))] [])) _
          refine XS.iconst X5.here hx rfl (hb hby at_112) ?_
          show Steps p.tables e below (T5.setTop (mkF m 113 #[.val (.int p1), .val (.int p2), .val (.long (v0_10_0 p1)), .second, .val (.int (v0_24_1 p1)), .val (.int (v0_40_2 p1)), .val (.int (v0_52_3 p2)), .val (.int (f1 (v0_52_3 p2))), .val (.int (0 : Int32))] [(.int (0 : Int32))])) _
          simpa only [if_neg hc95_16, if_neg hc100_17] using k
    show Goes p e below (T5.setTop (mkF m 113 #[.val (.int p1), .val (.int p2), .val (.long (v0_10_0 p1)), .second, .val (.int (v0_24_1 p1)), .val (.int (v0_40_2 p1)), .val (.int (v0_52_3 p2)), .val (.int (f1 (v0_52_3 p2))), .val (.int (0 : Int32))] [(.int (0 : Int32))])) _
    obtain ⟨fs, hr, hrun, hended, hW, hsame⟩ := X5.leave (v := some (.int (0 : Int32))) (fun h => by rw [Bd.returns] at h; cases h)
    refine ⟨_, _, ?_, hrun, hended, _, _, rfl, ?_, ⟨_, rfl⟩, hW, hsame.mono (by decide) (by decide)⟩
    · exact retN X5 hx (t := .boolean) Bd.returns (by simp) (hb hby at_113) hr
    · show Q0 Z p1 p2 h0 n0 _ T5.heap _
      rw [e5]
      exact ⟨congrArg some (congrArg _ (by simp only [f0, if_neg hc66_6])), N5, rfl⟩
theorem own_lit : (48 : Int32).toInt = 48 ∧ (57 : Int32).toInt = 57 ∧ (10 : Int32).toInt = 10 ∧ (48 : Int64).toInt = 48 ∧ (10 : Int64).toInt = 10 := by decide
theorem own_digit (c : Int32) : f1 c = if 48 ≤ c.toInt ∧ c.toInt ≤ 57 then 1 else 0 := by
  obtain ⟨e1, e2, -⟩ := own_lit
  simp only [f1, v1_17_0, Int32.lt_iff_toInt_lt, e1, e2]
  by_cases h1 : c.toInt < 48
  · rw [if_pos h1, if_neg (by omega)]; decide
  · rw [if_neg h1]
    by_cases h2 : 57 < c.toInt
    · rw [if_pos h2, if_neg (by omega)]; decide
    · rw [if_neg h2, if_pos (by omega)]; decide
theorem own_off (c : Int32) : v0_24_1 c = if 48 ≤ c.toInt ∧ c.toInt ≤ 57 then 1 else 0 := by
  obtain ⟨-, -, -, e4, e5⟩ := own_lit
  have a1 := c_i2l c
  have a2 := c_lsub c.toInt64 48
  have a3 := c_maskL (c.toInt64 - 48) 4294967295 32 (by decide) (by decide)
  have r1 := rng32 c
  have r2 := rng64 (c.toInt64 - 48)
  rw [a1, e4] at a2
  simp only [v0_24_1, v0_10_0, Int64.lt_iff_toInt_lt, e5, a3]
  generalize (c.toInt64 - 48).toInt = z at *
  generalize c.toInt = y at *
  have hp : ((2 ^ 32 : Nat) : Int) = 4294967296 := by decide
  rw [hp]
  by_cases h : 48 ≤ y ∧ y ≤ 57
  · rw [if_pos h, if_pos (by omega)]
  · rw [if_neg h, if_neg (by omega)]
theorem own_d (k : Int32) : f1 (v0_52_3 k) = 1 := by
  obtain ⟨e1, -, e3, -⟩ := own_lit
  have a1 := c_mask k 2147483647 31 (by decide) (by decide)
  have a2 := (c_irem (k &&& 2147483647) 10 10 e3).1
  have a3 := c_iadd 48 ((k &&& 2147483647) % 10)
  have r := rng32 (48 + (k &&& 2147483647) % 10)
  rw [own_digit]
  rw [e1] at a3
  show (if 48 ≤ (48 + (k &&& 2147483647) % 10 : Int32).toInt ∧ (48 + (k &&& 2147483647) % 10 : Int32).toInt ≤ 57 then (1 : Int32) else 0) = 1
  have hp : ((2 ^ 31 : Nat) : Int) = 2147483648 := by decide
  rw [hp] at a1
  have a4 := a2 (by omega)
  rw [if_pos]
  omega
theorem one_1 (i0 i1 : Int32) : f0 i0 i1 = 1 := by
  have h1 : f1 (47 : Int32) = 0 := by decide
  have h2 : f1 (58 : Int32) = 0 := by decide
  have h3 : f1 (1632 : Int32) = 0 := by decide
  have h4 : f1 i0 = v0_24_1 i0 := by rw [own_digit, own_off]
  have h5 : ¬ f1 (v0_52_3 i1) = 0 := by rw [own_d]; decide
  have h6 : v0_40_2 i0 = 1 := by simp only [v0_40_2, if_pos h4]
  have h7 : v0_91_4 = 1 := by simp only [v0_91_4, if_pos h3]
  have h8 : v0_113_5 i0 i1 = 1 := by
    simp only [v0_113_5, h6, h7, if_neg h5]
    decide
  simp only [f0, if_pos h1, if_pos h2, h8]
  decide
set_option maxRecDepth 65536 in
set_option maxHeartbeats 40000000 in
theorem comes_1 {Post : Tables → Env → Array Value → State → Outcome → State → Prop} (hpost : ∀ tb e args s v u, (limb_1_1.after args s (.returned v) u = true ∧ limb_1_2.after args s (.returned v) u = true ∧ True) → FrameEnd s (.returned v) u (Jvm.fieldLocs frame_1_writes args s ++ Jvm.arrayLocs frame_1_arrays args s ++ Jvm.staticLocs frame_1_statics s) 0 0 → Post tb e args s (.returned v) u) :
    ArmFor flags0 classFile x code maxLocals ret World_1 tables_1 room_1 Calls_1 rest_1 Pre_1 Post := by
  intro l hfl _ _ p e ha hc hk s m args below hf hA hF happ hP
  obtain ⟨hcalls, hrest, hpre⟩ := hP
  obtain ⟨-, -, -, hnamed, -, -, -, hat⟩ := (Spec.applies_iff hf).mp happ
  obtain ⟨hg, hn⟩ := and_e (Cond.before_iff.mp (show (Jvm.Cond.and given_1 narrow_1).before args s = true from hpre))
  obtain ⟨g0, r0⟩ := and_e hg
  obtain ⟨w0, w1, rfl⟩ : ∃ w0 w1 : Value, args = #[w0, w1] := by
    have hs : args.size = 2 := by simpa [Cond.value, given_1] using g0
    obtain ⟨L⟩ := args
    match L, hs with
    | [w0, w1], _ => exact ⟨w0, w1, rfl⟩
  have hw := fun d (hd : d ∈ tables_1) => atoms_spec (ws := Jvm.Cond.code x code maxLocals ret :: tables_1) hat d (List.mem_cons_of_mem _ hd)
  obtain ⟨g1, r1⟩ := and_e r0
  have g2 := r1
  obtain ⟨i0, ei0⟩ := is_v g1
  obtain rfl : w0 = (.int i0) := Option.some.inj ei0
  obtain ⟨i1, ei1⟩ := is_v g2
  obtain rfl : w1 = (.int i1) := Option.some.inj ei1
  obtain ⟨n, o, h1, h2, h3, v, L, rfl, hQ, hq⟩ := rm0 l s _ hw tables_1 i0 i1  s.heap s.heap.size (Nat.le_refl _)  p e ha hc hk s m _ below hf ((Spec.applies_iff_loose hf).mp happ).1 ⟨rfl, State.Warmed39.refl s, rfl⟩ trivial
  obtain ⟨hv, N⟩ : v = some (.int 1) ∧ Fr s.heap.size L := ⟨by rw [hQ.1, one_1 i0 i1], hQ.2.1⟩
  subst hv
  refine ⟨n, _, h1, h2, h3, hpost _ _ _ _ _ _ ⟨Cond.after_iff.mpr rfl, Cond.after_iff.mpr (eq_i res_at (Term.int_eval (1)) rfl), trivial⟩ ⟨hq.1, hq.2.1, (hq.2.2.sift fun y hy => Or.inr (N y hy)).mono (by decide) (by decide)⟩⟩
theorem main_1_1 : Claimed_1_1 := comes_1 fun _ _ _ _ _ _ h hF => ⟨h.1, hF⟩
theorem main_1_2 : Claimed_1_2 := comes_1 fun _ _ _ _ _ _ h hF => ⟨h.2.1, hF⟩
end Jvm.Pilot.@@N@@
namespace Jvm.Pilot.@@N@@
open Jvm Jvm.ClassFile Sem Op Lib Jvm.Free Jvm.Stand Jvm.Pilot.@@N@@.Jvm.D
/-! MADE BY PROGRAM (witnessworld.py) out of the Statement's table words and the real class files: 9 classes; the members and pool entries that the words name. The judged class is class 1, her method 1. -/
namespace start1
open Jvm.ClassFile
def u (s : String) : CpInfo := .utf8 (stringToUtf16 s)
/-- a pool by its gaps: so many unusable entries, then the entry; so many at the end -/
def gap : Nat → List CpInfo → List CpInfo
  | 0, r => r
  | n + 1, r => .unusable :: gap n r
def poolList (es : List (Nat × CpInfo)) (last : Nat) : List CpInfo := es.foldr (fun e r => gap e.1 (e.2 :: r)) (gap last [])
def pool (es : List (Nat × CpInfo)) (last : Nat) : Array CpInfo := ⟨poolList es last⟩
def fileOf (pool : Array CpInfo) (this : Nat) (attrs : Array Attribute := #[]) (ms : Array MethodInfo := #[]) (fl : Nat := 33) (sup : Nat := 0) (ifs : Array Nat := #[]) (fds : Array FieldInfo := #[]) : ClassFile where
  minorVersion := 0
  majorVersion := 65
  constantPool := pool
  accessFlags := fl
  thisClass := this
  superClass := sup
  interfaces := ifs
  fields := fds
  methods := ms
  attributes := attrs
def plain (name : String) (sup : Option ClassId) : Class where
  name := name
  kind := .ordinary
  loader := none
  accessFlags := 33
  super := sup
  interfaces := #[]
  cf := none
  fields := #[]
  methods := #[]
  instanceTypes := #[]
  staticTypes := #[]
  resolved := #[]
  callSites := []
  init := .initialized
  statics := none
  mirror := none

def pool0 : Array CpInfo := pool [(5, u "<init>"), (0, u "()V"), (1, .class_ 10), (1, u "java/lang/Object")] 113

def k0m0 : Method := { name := "<init>", desc := "()V", sig := { parameters := [], returnType := none }, accessFlags := 1, code := none }
/-- java/lang/Object -/
def k0 : Class := { plain "java/lang/Object" none with
  accessFlags := 33
  interfaces := #[]
  cf := some (fileOf pool0 8 #[] #[{ accessFlags := 1, nameIndex := 5, descriptorIndex := 6, attributes := #[] }] 33 0 #[] #[])
  fields := #[]
  methods := #[k0m0]
  instanceTypes := #[]
  staticTypes := #[]
  resolved := Array.replicate 124 none
  statics := none }

def pool1 : Array CpInfo := pool [(2, .class_ 4), (1, u "java/lang/Object"), (0, u "<init>"), (0, u "()V"), (0, .long 48), (1, .long 4294967295), (1, .long 10), (1, .methodref 14 15), (0, .class_ 16), (0, .nameAndType 17 18), (0, u "cascabel/writer/TokenText"), (0, u "isDigit"), (0, u "(I)Z"), (0, .integer 2147483647), (0, .class_ 21), (0, u "cascabel/writer/TokenTextIsDigitPinLaw"), (2, u "law"), (0, u "(II)Z")] 3

def k1m0 : Method := { name := "<init>", desc := "()V", sig := { parameters := [], returnType := none }, accessFlags := 2, code := none }
def k1c1 : Code := { maxStack := 4, maxLocals := 9, code := code, exceptionTable := #[], attributes := #[] }
def k1m1 : Method := { name := "law", desc := "(II)Z", sig := { parameters := [.int, .int], returnType := some .boolean }, accessFlags := 9, code := some k1c1 }
/-- cascabel/writer/TokenTextIsDigitPinLaw -/
def k1 : Class := { plain "cascabel/writer/TokenTextIsDigitPinLaw" (some 0) with
  accessFlags := 49
  interfaces := #[]
  cf := some (fileOf pool1 20 #[] #[{ accessFlags := 2, nameIndex := 5, descriptorIndex := 6, attributes := #[] }, { accessFlags := 9, nameIndex := 24, descriptorIndex := 25, attributes := #[] }] 49 2 #[] #[])
  fields := #[]
  methods := #[k1m0, k1m1]
  instanceTypes := #[]
  staticTypes := #[]
  resolved := Array.replicate 29 none
  statics := none }

def pool2 : Array CpInfo := pool [(2, .class_ 4), (1, u "java/lang/Object"), (0, u "<init>"), (0, u "()V"), (2, .class_ 10), (0, u "cascabel/writer/TokenText$Piece"), (1, .class_ 14), (1, u "cascabel/writer/TokenText$Kind"), (7, .class_ 24), (1, u "cascabel/writer/TokenText"), (130, .class_ 157), (1, u "cascabel/writer/TokenText$1"), (52, u "isDigit"), (0, u "(I)Z")] 130

def k2m0 : Method := { name := "<init>", desc := "()V", sig := { parameters := [], returnType := none }, accessFlags := 2, code := none }
def k2c1 : Code := { maxStack := 2, maxLocals := 1, code := prog_124_method_17_code, exceptionTable := #[], attributes := #[] }
def k2m1 : Method := { name := "isDigit", desc := "(I)Z", sig := { parameters := [.int], returnType := some .boolean }, accessFlags := 8, code := some k2c1 }
/-- cascabel/writer/TokenText -/
def k2 : Class := { plain "cascabel/writer/TokenText" (some 0) with
  accessFlags := 48
  interfaces := #[]
  cf := some (fileOf pool2 22 #[.nestMembers #[155, 9, 12]] #[{ accessFlags := 2, nameIndex := 5, descriptorIndex := 6, attributes := #[] }, { accessFlags := 8, nameIndex := 210, descriptorIndex := 211, attributes := #[] }] 48 2 #[] #[])
  fields := #[]
  methods := #[k2m0, k2m1]
  instanceTypes := #[]
  staticTypes := #[]
  resolved := Array.replicate 342 none
  statics := none }

def pool3 : Array CpInfo := pool [(1, u "java/lang/Cloneable"), (0, .class_ 1), (0, u "java/lang/Object"), (0, .class_ 3)] 3

/-- java/lang/Cloneable -/
def k3 : Class := { plain "java/lang/Cloneable" (some 0) with
  accessFlags := 1537
  interfaces := #[]
  cf := some (fileOf pool3 2 #[] #[] 1537 4 #[] #[])
  fields := #[]
  methods := #[]
  instanceTypes := #[]
  staticTypes := #[]
  resolved := Array.replicate 8 none
  statics := none }

def pool4 : Array CpInfo := pool [(1, u "java/io/Serializable"), (0, .class_ 1), (0, u "java/lang/Object"), (0, .class_ 3)] 3

/-- java/io/Serializable -/
def k4 : Class := { plain "java/io/Serializable" (some 0) with
  accessFlags := 1537
  interfaces := #[]
  cf := some (fileOf pool4 2 #[] #[] 1537 4 #[] #[])
  fields := #[]
  methods := #[]
  instanceTypes := #[]
  staticTypes := #[]
  resolved := Array.replicate 8 none
  statics := none }

/-- the primitive byte -/
def k5 : Class := { plain "byte" none with kind := .primitive 'B', accessFlags := 0x411 }
/-- [B -/
def k6 : Class := { plain "[B" (some 0) with kind := .array 5 .byte, interfaces := #[3, 4], accessFlags := 1041 }

/-- the primitive int -/
def k7 : Class := { plain "int" none with kind := .primitive 'I', accessFlags := 0x411 }
/-- [I -/
def k8 : Class := { plain "[I" (some 0) with kind := .array 7 .int, interfaces := #[3, 4], accessFlags := 1041 }

def heap : Heap := #[]
def classes : Array Class := #[k0, k1, k2, k3, k4, k5, k6, k7, k8]
def interned : List (Array UInt16 × Addr) := []
def slotsUsed : Nat := 0
def theMethod : MethodId := ⟨1, 1⟩
def args0 : Array Value := #[.int 5, .int 7]
def aboutOver (below : List Frame) : State where
  vm := { classes := classes, interned := interned.toArray }
  heap := heap
  slotsUsed := slotsUsed
  threads := #[{ frames := .invoking theMethod args0 :: below }]
def below0 : List Frame := [.native { method := ⟨0, 0⟩, args := #[] }]
def about1 : State := aboutOver below0
def p0 : Program := .bare "" "" ""
def e0 : Env := launch0.env 0 0 0
theorem w_frames : about1.frames = Frame.invoking theMethod args0 :: below0 := rfl
set_option maxRecDepth 65536 in
theorem w_args : argsFit about1.vm theMethod args0 = true := by decide +kernel
set_option maxRecDepth 65536 in
theorem w_heap : heapFits about1 = true := by decide +kernel
set_option maxRecDepth 65536 in
theorem w_runnable : about1.curStatus? = some .runnable := by decide +kernel
set_option maxRecDepth 65536 in
theorem w_alone : about1.alone = true := by decide +kernel
set_option maxRecDepth 65536 in
theorem w_named : about1.methodNamed? x = some theMethod := by decide +kernel
set_option maxRecDepth 65536 in
theorem w_hears : about1.hears theMethod below0 = true := by decide +kernel
set_option maxRecDepth 65536 in
theorem w_ripe : about1.ripe theMethod args0 below0 = true := by decide +kernel
theorem w_running : about1.status = .running := rfl
set_option maxRecDepth 65536 in
theorem w_room : about1.hasRoom e0.platform room_1 = true :=
  launch0.hasRoom_least _ room_1 (by decide +kernel) (by decide +kernel) (by decide +kernel) (by decide +kernel) (by decide +kernel) (by decide +kernel)
theorem allAtoms_all (ts : List Jvm.Cond) (a : Array Jvm.Value) (st : Jvm.State) : (allAtoms ts).before a st = ts.all (fun c => c.before a st) := by
  induction ts with
  | nil => rfl
  | cons c t ih =>
    show (Jvm.Cond.and c (allAtoms t)).before a st = _
    rw [Jvm.Cond.before_and, ih, List.all_cons]
def words1 : List Jvm.Cond := Jvm.Cond.code x code maxLocals ret :: tables_1
/-- a 'code' word, met by the world's own term for the bytes: nothing is compared byte by byte -/
theorem code_word {y : MethodName} {bytes : ByteArray} {mx : Nat} {rt : Option FieldType} {a : Array Value} {s : State} {m : MethodId} {meth : Method} {c : Code} (h1 : s.methodNamed? y = some m) (h2 : s.vm.method? m = some meth) (h3 : meth.code = some c) (h4 : c.code = bytes)
    (h5 : (c.maxLocals == mx && c.exceptionTable.isEmpty && decide (c.maxStack ≤ mostOperands) && decide (meth.sig.returnType = rt) && !meth.locks && decide (parseMethodDescriptor y.desc = some meth.sig)) = true) : (Jvm.Cond.code y bytes mx rt).before a s = true := by
  simp only [Bool.and_eq_true, beq_iff_eq, Bool.not_eq_true', decide_eq_true_eq] at h5
  obtain ⟨⟨⟨⟨⟨g1, g2⟩, g3⟩, g4⟩, g5⟩, g6⟩ := h5
  simp [Cond.before, Cond.holds, Cond.value, h1, h2, h3, h4, g1, g2, g3, g4, g5, g6]
def isCode : Jvm.Cond → Bool
  | .code _ _ _ _ => true
  | _ => false
theorem all_split {L : List Jvm.Cond} {P : Jvm.Cond → Bool} (h1 : L.all (fun c => isCode c || P c) = true) (h2 : ∀ c ∈ L.filter isCode, P c = true) : L.all P = true := by
  refine List.all_eq_true.mpr fun c hc => ?_
  have h := List.all_eq_true.mp h1 c hc
  rcases Bool.eq_false_or_eq_true (isCode c) with hi | hi
  · exact h2 c (List.mem_filter.mpr ⟨hc, hi⟩)
  · simpa [hi] using h
set_option maxRecDepth 65536 in
theorem w_c0 : (Jvm.Cond.code x code maxLocals ret).before args0 about1 = true := code_word (m := ⟨1, 1⟩) (meth := k1m1) (c := k1c1) (by decide +kernel) rfl rfl rfl (by decide +kernel)
set_option maxRecDepth 65536 in
theorem w_c1 : (Jvm.Cond.code ({ cls := "cascabel/writer/TokenText", name := "isDigit", desc := "(I)Z" } : Jvm.MethodName) prog_124_method_17_code (1 : Nat) (Option.some Jvm.ClassFile.FieldType.boolean)).before args0 about1 = true := code_word (m := ⟨2, 1⟩) (meth := k2m1) (c := k2c1) (by decide +kernel) rfl rfl rfl (by decide +kernel)
def codes1 : List Jvm.Cond := [Jvm.Cond.code x code maxLocals ret, Jvm.Cond.code ({ cls := "cascabel/writer/TokenText", name := "isDigit", desc := "(I)Z" } : Jvm.MethodName) prog_124_method_17_code (1 : Nat) (Option.some Jvm.ClassFile.FieldType.boolean)]
set_option maxRecDepth 65536 in
theorem codes_eq : words1.filter isCode = codes1 := rfl
theorem w_codes : ∀ c ∈ words1.filter isCode, c.before args0 about1 = true := by
  rw [codes_eq]
  intro c hc
  simp only [codes1, List.mem_cons, List.not_mem_nil, or_false] at hc
  rcases hc with rfl | rfl
  · exact w_c0
  · exact w_c1
set_option maxRecDepth 65536 in
theorem w_t1 : words1.all (fun c => isCode c || c.before args0 about1) = true := by decide +kernel
theorem w_tables : (allAtoms (Jvm.Cond.code x code maxLocals ret :: tables_1)).before args0 about1 = true := by
  rw [allAtoms_all]
  show words1.all (fun c => c.before args0 about1) = true
  refine all_split ?_ w_codes
  rw [w_t1]
set_option maxRecDepth 65536 in
theorem w_case : (Jvm.Cond.and given_1 narrow_1).before args0 about1 = true := by decide +kernel
theorem w_applies : (headSpec (Jvm.Cond.code x code maxLocals ret :: tables_1) room_1).applies x e0.platform about1 = true :=
  (Spec.applies_iff w_frames).mpr ⟨w_running, w_runnable, w_alone, w_named, w_hears, w_ripe, w_room, w_tables⟩
theorem atStart : AtStart classFile x code maxLocals ret World_1 tables_1 room_1 Calls_1 rest_1 Pre_1 launch0 p0 e0 about1 theMethod args0 below0 :=
  ⟨lists_1, trivial, launch0.admits_env _ _ _, launch0.least_env, fairChoices_fair.cas, fairChoices_fair.clock, w_frames, w_args, w_heap, w_applies, trivial, trivial, w_case⟩
end start1
theorem witness_1 : WitnessClaimed_1 := ⟨start1.p0, start1.e0, start1.about1, start1.theMethod, start1.args0, start1.below0, start1.atStart⟩
end Jvm.Pilot.@@N@@
