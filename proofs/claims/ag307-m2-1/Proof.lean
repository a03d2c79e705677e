import JvmDerived
import JvmDerived.Pilot.@@N@@Statement
import JvmDerived.Pilot.@@N@@Code
set_option linter.unusedVariables false
set_option linter.unusedSimpArgs false
namespace Jvm.RoadKit
open Sem ClassFile Op Lib Jvm.Stand Jvm.Free Jvm.LawKit
section New
variable {p : Program} {l : Launch} {e : Env} {R : Room} {s : State} {m : MethodId} {args : Array Value} {below : List Frame} {meth : Method} {c : Code} {T : State} {locs : List Loc} {cells slots : Nat}
theorem retI (X : Stand p l e R s m args below meth c T locs cells slots) (hx : p.tables.exec = Jvm.exec) {pc : Nat} {Ls : Array Slot} {z : Int32} {rest : List Value} (hret : meth.sig.returnType = some .int) (hd : decode c.code pc = .ok (.ireturn, 1)) {fs : List Frame}
    (hl : ∀ (f : JFrame) (acts : List Action), f.method = m → f.locked = none → f.entered = [] → (doReturn e (T.setTop f) acts (some (.int z))).1 = T.setFrames fs) : Steps p.tables e below (T.setTop (mkF m pc Ls (.int z :: rest))) (T.setFrames fs) := by
  have hm' : T.vm.method? m = some meth := X.method'
  have hn : narrow .int (.int z) = .int z := rfl
  show Steps p.tables e below (T.setTop { method := m, pc := pc, locals := Ls, stack := _ :: rest, locked := none }) _
  jvm_step X.here [X.here.top, hx, hd, hm', hret, hn]
  first | (intro acts; rw [hl _ acts rfl rfl rfl]) | rw [hl _ _ rfl rfl rfl]
  exact Steps.refl _
/-- from here the invocation comes to an end of which R holds -/
def Goes (p : Program) (e : Env) (below : List Frame) (cur : State) (R : State → Outcome → Prop) : Prop := ∃ s₂ o, Steps p.tables e below cur s₂ ∧ s₂.status = .running ∧ Ended s₂ below o ∧ R s₂ o
theorem Goes.via {cur next : State} {R : State → Outcome → Prop} (k : ∀ t, Steps p.tables e below next t → Steps p.tables e below cur t) (h : Goes p e below next R) : Goes p e below cur R := by
  obtain ⟨s₂, o, h1, h2⟩ := h
  exact ⟨s₂, o, k _ h1, h2⟩
end New
end Jvm.RoadKit
namespace Jvm.Pilot.@@N@@
open Jvm Jvm.ClassFile Sem Op Lib Jvm.Free Jvm.Stand Jvm.LawKit Jvm.RoadKit Bundle Jvm.Pilot.@@N@@.Jvm.D
theorem d2_0 : decode prog_41_method_7_code 0 = .ok (.iload_n 0, 1) := by decide +kernel
theorem d2_1 : decode prog_41_method_7_code 1 = .ok (.iload_n 1, 1) := by decide +kernel
theorem d2_2 : decode prog_41_method_7_code 2 = .ok (.iand, 1) := by decide +kernel
theorem d2_3 : decode prog_41_method_7_code 3 = .ok (.ireturn, 1) := by decide +kernel
theorem pn_2 : plainName "com/example/lean_lease/leanlease/wire/Ipv4" = true := by first | (simp [plainName, overriddenIn]; done) | decide +kernel
theorem ef_2 (m : MethodId) (x0 : Int32) (x1 : Int32) : entryFrame m #[(.int x0), (.int x1)] 2 = mkF m 0 #[.val (.int x0), .val (.int x1)] [] := by first | (simp [entryFrame, mkF, argsToLocals, Value.category]; done) | rfl
def f2 (p1 : Int32) (p2 : Int32) : Int32 :=
  (p1 &&& p2)
def Q2 (Z : State) (p1 : Int32) (p2 : Int32) (h0 : Heap) (n0 : Nat) (v : Option Value) (h : Heap) (L : List Loc) : Prop := v = some (.int (f2 p1 p2)) ∧ Fr n0 L ∧ h = h0
set_option maxRecDepth 65536 in
set_option maxHeartbeats 40000000 in
theorem rm2 (l : Launch) (Z : State) (a0 : Array Value) (hw : ∀ d ∈ tables_1, d.before a0 Z = true) (ws : List Jvm.Cond) (p1 : Int32) (p2 : Int32) (h0 : Heap) (n0 : Nat) (Z0 : n0 ≤ h0.size) :
    MetFree l (⟨"com/example/lean_lease/leanlease/wire/Ipv4", "network", "(II)I"⟩ : MethodName) (head1 (Jvm.Cond.code (⟨"com/example/lean_lease/leanlease/wire/Ipv4", "network", "(II)I"⟩ : MethodName) prog_41_method_7_code 2 (some .int) :: ws) ({ frames := 0, cells := 0, slots := 0, locals := 0 } : Room)) (fun a U => a = #[(.int p1), (.int p2)] ∧ Z.Warmed39 U.vm ∧ U.heap = h0) (fun _ _ _ _ _ => True) (fun _ U o U' => ∃ v L, o = .returned v ∧ Q2 Z p1 p2 h0 n0 v U'.heap L ∧ FrameEnd U o U' L ({ frames := 0, cells := 0, slots := 0, locals := 0 } : Room).cells ({ frames := 0, cells := 0, slots := 0, locals := 0 } : Room).slots) := by
  refine MetFree.of_bodySF (plainFor_of_name pn_2) hisR ?_
  intro p e s m args below meth c s₁ Bd hml0 hP hK
  obtain ⟨rfl, hZ, hh⟩ := hP
  have hx := Bd.exec
  have hby := Bd.bytes
  have hml : c.maxLocals = 2 := hml0
  have hown : s.vm.findClass "com/example/lean_lease/leanlease/wire/Ipv4" = some m.cls := findClass_of_methodNamed Bd.named
  have hnm := (name_of_methodNamed Bd.named Bd.method).1
  have X0 : Stand p l e ({ frames := 0, cells := 0, slots := 0, locals := 0 } : Room) s m #[(.int p1), (.int p2)] below meth c s₁ [] 0 0 := Stand.of_body Bd
  have e0 : s₁.heap = h0 := by rw [← hh, Bd.state]; rfl
  have N0 := Fr.nil n0
  refine Goes.via (next := s₁.setTop (mkF m 0 #[.val (.int p1), .val (.int p2)] [])) (fun t k => castTop (ef_2 m p1 p2) k) ?_
  refine Goes.via (fun t k => XS.iloadN X0.here hx rfl (hb hby d2_0) rfl k) ?_
  show Goes p e below (s₁.setTop (mkF m 1 #[.val (.int p1), .val (.int p2)] [(.int p1)])) _
  refine Goes.via (fun t k => XS.iloadN X0.here hx rfl (hb hby d2_1) rfl k) ?_
  show Goes p e below (s₁.setTop (mkF m 2 #[.val (.int p1), .val (.int p2)] [(.int p2), (.int p1)])) _
  refine Goes.via (fun t k => XS.iand X0.here hx rfl (hb hby d2_2) rfl k) ?_
  show Goes p e below (s₁.setTop (mkF m 3 #[.val (.int p1), .val (.int p2)] [(.int (p1 &&& p2))])) _
  obtain ⟨fs, hr, hrun, hended, hW, hsame⟩ := X0.leave (v := some (.int (p1 &&& p2))) (fun h => by rw [Bd.returns] at h; cases h)
  refine ⟨_, _, ?_, hrun, hended, _, _, rfl, ?_, ⟨_, rfl⟩, hW, hsame.mono (by decide) (by decide)⟩
  · exact retI X0 hx Bd.returns (hb hby d2_3) hr
  · show Q2 Z p1 p2 h0 n0 _ s₁.heap _
    rw [e0]
    exact ⟨congrArg some (congrArg _ rfl), N0, rfl⟩
theorem d1_0 : decode prog_41_method_9_code 0 = .ok (.iload_n 0, 1) := by decide +kernel
theorem d1_1 : decode prog_41_method_9_code 1 = .ok (.iload_n 2, 1) := by decide +kernel
theorem d1_2 : decode prog_41_method_9_code 2 = .ok (.invokestatic 59, 3) := by decide +kernel
theorem d1_5 : decode prog_41_method_9_code 5 = .ok (.iload_n 1, 1) := by decide +kernel
theorem d1_6 : decode prog_41_method_9_code 6 = .ok (.iload_n 2, 1) := by decide +kernel
theorem d1_7 : decode prog_41_method_9_code 7 = .ok (.invokestatic 59, 3) := by decide +kernel
theorem d1_10 : decode prog_41_method_9_code 10 = .ok (.if_icmp .ne 7, 3) := by decide +kernel
theorem d1_13 : decode prog_41_method_9_code 13 = .ok (.iconst 1, 1) := by decide +kernel
theorem d1_14 : decode prog_41_method_9_code 14 = .ok (.goto 4, 3) := by decide +kernel
theorem d1_17 : decode prog_41_method_9_code 17 = .ok (.iconst 0, 1) := by decide +kernel
theorem d1_18 : decode prog_41_method_9_code 18 = .ok (.ireturn, 1) := by decide +kernel
theorem pn_1 : plainName "com/example/lean_lease/leanlease/wire/Ipv4" = true := by first | (simp [plainName, overriddenIn]; done) | decide +kernel
theorem pd_1_0 : parseMethodDescriptor "(II)I" = some ⟨[.int, .int], some .int⟩ := by decide +kernel
theorem ef_1 (m : MethodId) (x0 : Int32) (x1 : Int32) (x2 : Int32) : entryFrame m #[(.int x0), (.int x1), (.int x2)] 3 = mkF m 0 #[.val (.int x0), .val (.int x1), .val (.int x2)] [] := by first | (simp [entryFrame, mkF, argsToLocals, Value.category]; done) | rfl
def v1_18_0 (p1 : Int32) (p2 : Int32) (p3 : Int32) : Int32 := (if (f2 p1 p3) = (f2 p2 p3) then (1 : Int32) else (0 : Int32))
def f1 (p1 : Int32) (p2 : Int32) (p3 : Int32) : Int32 :=
  (nar .boolean (v1_18_0 p1 p2 p3))
def Q1 (Z : State) (p1 : Int32) (p2 : Int32) (p3 : Int32) (h0 : Heap) (n0 : Nat) (v : Option Value) (h : Heap) (L : List Loc) : Prop := v = some (.int (f1 p1 p2 p3)) ∧ Fr n0 L ∧ h = h0
set_option maxRecDepth 65536 in
set_option maxHeartbeats 40000000 in
theorem rm1 (l : Launch) (Z : State) (a0 : Array Value) (hw : ∀ d ∈ tables_1, d.before a0 Z = true) (ws : List Jvm.Cond) (p1 : Int32) (p2 : Int32) (p3 : Int32) (h0 : Heap) (n0 : Nat) (Z0 : n0 ≤ h0.size) :
    MetFree l (⟨"com/example/lean_lease/leanlease/wire/Ipv4", "inSubnet", "(III)Z"⟩ : MethodName) (head1 (Jvm.Cond.code (⟨"com/example/lean_lease/leanlease/wire/Ipv4", "inSubnet", "(III)Z"⟩ : MethodName) prog_41_method_9_code 3 (some .boolean) :: ws) ({ frames := 1, cells := 0, slots := 0, locals := 14 } : Room)) (fun a U => a = #[(.int p1), (.int p2), (.int p3)] ∧ Z.Warmed39 U.vm ∧ U.heap = h0) (fun _ _ _ _ _ => True) (fun _ U o U' => ∃ v L, o = .returned v ∧ Q1 Z p1 p2 p3 h0 n0 v U'.heap L ∧ FrameEnd U o U' L ({ frames := 1, cells := 0, slots := 0, locals := 14 } : Room).cells ({ frames := 1, cells := 0, slots := 0, locals := 14 } : Room).slots) := by
  refine MetFree.of_bodySF (plainFor_of_name pn_1) hisR ?_
  intro p e s m args below meth c s₁ Bd hml0 hP hK
  obtain ⟨rfl, hZ, hh⟩ := hP
  have hx := Bd.exec
  have hby := Bd.bytes
  have hml : c.maxLocals = 3 := hml0
  have hown : s.vm.findClass "com/example/lean_lease/leanlease/wire/Ipv4" = some m.cls := findClass_of_methodNamed Bd.named
  have hnm := (name_of_methodNamed Bd.named Bd.method).1
  have X0 : Stand p l e ({ frames := 1, cells := 0, slots := 0, locals := 14 } : Room) s m #[(.int p1), (.int p2), (.int p3)] below meth c s₁ [] 0 0 := Stand.of_body Bd
  have e0 : s₁.heap = h0 := by rw [← hh, Bd.state]; rfl
  have N0 := Fr.nil n0
  refine Goes.via (next := s₁.setTop (mkF m 0 #[.val (.int p1), .val (.int p2), .val (.int p3)] [])) (fun t k => castTop (ef_1 m p1 p2 p3) k) ?_
  refine Goes.via (fun t k => XS.iloadN X0.here hx rfl (hb hby d1_0) rfl k) ?_
  show Goes p e below (s₁.setTop (mkF m 1 #[.val (.int p1), .val (.int p2), .val (.int p3)] [(.int p1)])) _
  refine Goes.via (fun t k => XS.iloadN X0.here hx rfl (hb hby d1_1) rfl k) ?_
  show Goes p e below (s₁.setTop (mkF m 2 #[.val (.int p1), .val (.int p2), .val (.int p3)] [(.int p3), (.int p1)])) _
  obtain ⟨_, _, ⟨T1, L1, k1, n1⟩, -, X1, ⟨Lc1, hQ1, l1, y1, z1⟩, st1⟩ := Jvm.LawKit.callS X0 hx (y := (⟨"com/example/lean_lease/leanlease/wire/Ipv4", "network", "(II)I"⟩ : MethodName)) hown (mvT hZ (hw _ (List.mem_of_getElem? (i := 6) rfl))) (mvT hZ (hw _ (List.mem_of_getElem? (i := 7) rfl))) (mvT hZ (hw _ (List.mem_of_getElem? (i := 4) rfl))) (mvT hZ (hw _ (List.mem_of_getElem? (i := 8) rfl))) (by decide) (backOf (W := 0) (rm2 l Z a0 hw [] p1 p3 h0 n0 Z0 ) hZ (hw _ (List.mem_of_getElem? (i := 8) rfl)) (hw _ (List.mem_of_getElem? (i := 4) rfl)) (by decide) (by decide)) (g := (mkF m 2 #[.val (.int p1), .val (.int p2), .val (.int p3)] [(.int p3), (.int p1)])) rfl (by rw [hml]; rfl) (argsL := [(.int p1), (.int p3)]) (rest := []) (lenOf pd_1_0 rfl) rfl (by show 2 * 0 + _ ≤ _; exact Nat.le_of_eq rfl) (hb hby d1_2) (fun _ _ => ⟨rfl, e0, (by decide : 0 + 0 ≤ _), (by decide : 0 + 0 ≤ _)⟩)
  dsimp only [Pt.U, Pt.locs, Pt.cells, Pt.slots] at X1 l1 y1 z1 st1 hQ1
  subst l1 y1 z1
  obtain ⟨rfl, N1q, er1⟩ := hQ1
  have e1 : T1.heap = h0 := er1
  have N1 := Fr.app N0 N1q
  refine Goes.via st1 ?_
  show Goes p e below (T1.setTop (mkF m 5 #[.val (.int p1), .val (.int p2), .val (.int p3)] [(.int (f2 p1 p3))])) _
  refine Goes.via (fun t k => XS.iloadN X1.here hx rfl (hb hby d1_5) rfl k) ?_
  show Goes p e below (T1.setTop (mkF m 6 #[.val (.int p1), .val (.int p2), .val (.int p3)] [(.int p2), (.int (f2 p1 p3))])) _
  refine Goes.via (fun t k => XS.iloadN X1.here hx rfl (hb hby d1_6) rfl k) ?_
  show Goes p e below (T1.setTop (mkF m 7 #[.val (.int p1), .val (.int p2), .val (.int p3)] [(.int p3), (.int p2), (.int (f2 p1 p3))])) _
  obtain ⟨_, _, ⟨T2, L2, k2, n2⟩, -, X2, ⟨Lc2, hQ2, l2, y2, z2⟩, st2⟩ := Jvm.LawKit.callS X1 hx (y := (⟨"com/example/lean_lease/leanlease/wire/Ipv4", "network", "(II)I"⟩ : MethodName)) hown (mvT hZ (hw _ (List.mem_of_getElem? (i := 6) rfl))) (mvT hZ (hw _ (List.mem_of_getElem? (i := 7) rfl))) (mvT hZ (hw _ (List.mem_of_getElem? (i := 4) rfl))) (mvT hZ (hw _ (List.mem_of_getElem? (i := 8) rfl))) (by decide) (backOf (W := 1) (rm2 l Z a0 hw [] p2 p3 h0 n0 Z0 ) hZ (hw _ (List.mem_of_getElem? (i := 8) rfl)) (hw _ (List.mem_of_getElem? (i := 4) rfl)) (by decide) (by decide)) (g := (mkF m 7 #[.val (.int p1), .val (.int p2), .val (.int p3)] [(.int p3), (.int p2), (.int (f2 p1 p3))])) rfl (by rw [hml]; rfl) (argsL := [(.int p2), (.int p3)]) (rest := [(.int (f2 p1 p3))]) (lenOf pd_1_0 rfl) rfl (by show 2 * 0 + _ ≤ _; exact Nat.le_of_eq rfl) (hb hby d1_7) (fun _ _ => ⟨rfl, e1, (by decide : 0 + 0 ≤ _), (by decide : 0 + 0 ≤ _)⟩)
  dsimp only [Pt.U, Pt.locs, Pt.cells, Pt.slots] at X2 l2 y2 z2 st2 hQ2
  subst l2 y2 z2
  obtain ⟨rfl, N2q, er2⟩ := hQ2
  have e2 : T2.heap = h0 := er2
  have N2 := Fr.app N1 N2q
  refine Goes.via st2 ?_
  show Goes p e below (T2.setTop (mkF m 10 #[.val (.int p1), .val (.int p2), .val (.int p3)] [(.int (f2 p2 p3)), (.int (f2 p1 p3))])) _
  refine Goes.via (next := T2.setTop (mkF m 18 #[.val (.int p1), .val (.int p2), .val (.int p3)] [(.int (v1_18_0 p1 p2 p3))])) (fun t k => ?_) ?_
  · by_cases hc10_3 : (f2 p1 p3) = (f2 p2 p3)
    · refine XS.icmpNo X2.here hx rfl (hb hby d1_10) rfl (teq hc10_3).2 ?_
      show Steps p.tables e below (T2.setTop (mkF m 13 #[.val (.int p1), .val (.int p2), .val (.int p3)] [])) _
      refine XS.iconst X2.here hx rfl (hb hby d1_13) ?_
      show Steps p.tables e below (T2.setTop (mkF m 14 #[.val (.int p1), .val (.int p2), .val (.int p3)] [(.int (1 : Int32))])) _
      refine XS.goto X2.here hx rfl (pc0 := 14) (pc' := 18) rfl (hb hby d1_14) (by decide) (by decide) ?_
      show Steps p.tables e below (T2.setTop (mkF m 18 #[.val (.int p1), .val (.int p2), .val (.int p3)] [(.int (1 : Int32))])) _
      simpa only [v1_18_0, if_pos hc10_3] using k
    · refine XS.icmpYes X2.here hx rfl (pc0 := 10) (pc' := 17) rfl (hb hby d1_10) rfl (feq hc10_3).2 (by decide) (by decide) ?_
      show Steps p.tables e below (T2.setTop (mkF m 17 #[.val (.int p1), .val (.int p2), .val (.int p3)] [])) _
      refine XS.iconst X2.here hx rfl (hb hby d1_17) ?_
      show Steps p.tables e below (T2.setTop (mkF m 18 #[.val (.int p1), .val (.int p2), .val (.int p3)] [(.int (0 : Int32))])) _
      simpa only [v1_18_0, if_neg hc10_3] using k
  show Goes p e below (T2.setTop (mkF m 18 #[.val (.int p1), .val (.int p2), .val (.int p3)] [(.int (v1_18_0 p1 p2 p3))])) _
  obtain ⟨fs, hr, hrun, hended, hW, hsame⟩ := X2.leave (v := some (.int (nar .boolean (v1_18_0 p1 p2 p3)))) (fun h => by rw [Bd.returns] at h; cases h)
  refine ⟨_, _, ?_, hrun, hended, _, _, rfl, ?_, ⟨_, rfl⟩, hW, hsame.mono (by decide) (by decide)⟩
  · exact retN X2 hx (t := .boolean) Bd.returns (by simp) (hb hby d1_18) hr
  · show Q1 Z p1 p2 p3 h0 n0 _ T2.heap _
    rw [e2]
    exact ⟨congrArg some (congrArg _ rfl), N2, rfl⟩
theorem pn_0 : plainName "com/example/lean_lease/leanlease/wire/Ipv4InSubnetPinLaw" = true := by first | (simp [plainName, overriddenIn]; done) | decide +kernel
theorem pd_0_0 : parseMethodDescriptor "(III)Z" = some ⟨[.int, .int, .int], some .boolean⟩ := by decide +kernel
theorem ef_0 (m : MethodId) (x0 : Int32) (x1 : Int32) (x2 : Int32) (x3 : Int32) : entryFrame m #[(.int x0), (.int x1), (.int x2), (.int x3)] maxLocals = mkF m 0 #[.val (.int x0), .val (.int x1), .val (.int x2), .val (.int x3), .unset, .unset, .unset, .unset] [] := by first | (simp [entryFrame, mkF, argsToLocals, Value.category, maxLocals]; done) | rfl
def v0_19_0 (p4 : Int32) : Int32 := (((4294967295 : Int64) <<< (((32 : Int32) - ((p4 &&& (2147483647 : Int32)) % (33 : Int32))) &&& 0x3f).toInt64).toInt32)
def v0_29_1 (p1 : Int32) (p2 : Int32) (p3 : Int32) : Int32 := (p1 ^^^ ((p2.toUInt32 >>> ((p3 &&& (31 : Int32)) &&& 31).toUInt32).toInt32))
def v0_62_2 (p1 : Int32) (p2 : Int32) (p3 : Int32) (p4 : Int32) : Int32 := (if ((p4 &&& (2147483647 : Int32)) % (33 : Int32)) = (0 : Int32) then (1 : Int32) else (if ((((v0_29_1 p1 p2 p3) ^^^ p1).toUInt32 >>> (((32 : Int32) - ((p4 &&& (2147483647 : Int32)) % (33 : Int32))) &&& 31).toUInt32).toInt32) = (0 : Int32) then (1 : Int32) else (0 : Int32)))
def v0_80_3 (p1 : Int32) (p2 : Int32) (p3 : Int32) (p4 : Int32) : Int32 := (if (f1 (v0_29_1 p1 p2 p3) p1 (v0_19_0 p4)) = (v0_62_2 p1 p2 p3 p4) then (1 : Int32) else (0 : Int32))
def f0 (p1 : Int32) (p2 : Int32) (p3 : Int32) (p4 : Int32) : Int32 :=
  (nar .boolean (v0_80_3 p1 p2 p3 p4))
def Q0 (Z : State) (p1 : Int32) (p2 : Int32) (p3 : Int32) (p4 : Int32) (h0 : Heap) (n0 : Nat) (v : Option Value) (h : Heap) (L : List Loc) : Prop := v = some (.int (f0 p1 p2 p3 p4)) ∧ Fr n0 L ∧ h = h0
set_option maxRecDepth 65536 in
set_option maxHeartbeats 40000000 in
theorem rm0 (l : Launch) (Z : State) (a0 : Array Value) (hw : ∀ d ∈ tables_1, d.before a0 Z = true) (ws : List Jvm.Cond) (p1 : Int32) (p2 : Int32) (p3 : Int32) (p4 : Int32) (h0 : Heap) (n0 : Nat) (Z0 : n0 ≤ h0.size) :
    MetFree l x (head1 (Jvm.Cond.code x code maxLocals ret :: ws) room_1) (fun a U => a = #[(.int p1), (.int p2), (.int p3), (.int p4)] ∧ Z.Warmed39 U.vm ∧ U.heap = h0) (fun _ _ _ _ _ => True) (fun _ U o U' => ∃ v L, o = .returned v ∧ Q0 Z p1 p2 p3 p4 h0 n0 v U'.heap L ∧ FrameEnd U o U' L room_1.cells room_1.slots) := by
  refine MetFree.of_bodySF (plainFor_of_name pn_0) hisR ?_
  intro p e s m args below meth c s₁ Bd hml0 hP hK
  obtain ⟨rfl, hZ, hh⟩ := hP
  have hx := Bd.exec
  have hby := Bd.bytes
  have hml : c.maxLocals = 8 := hml0
  have hown : s.vm.findClass "com/example/lean_lease/leanlease/wire/Ipv4InSubnetPinLaw" = some m.cls := findClass_of_methodNamed Bd.named
  have hnm := (name_of_methodNamed Bd.named Bd.method).1
  have X0 : Stand p l e room_1 s m #[(.int p1), (.int p2), (.int p3), (.int p4)] below meth c s₁ [] 0 0 := Stand.of_body Bd
  have e0 : s₁.heap = h0 := by rw [← hh, Bd.state]; rfl
  have N0 := Fr.nil n0
  refine Goes.via (next := s₁.setTop (mkF m 0 #[.val (.int p1), .val (.int p2), .val (.int p3), .val (.int p4), .unset, .unset, .unset, .unset] [])) (fun t k => castTop (ef_0 m p1 p2 p3 p4) k) ?_
  refine Goes.via (fun t k => XS.iloadN X0.here hx rfl (hb hby at_0) rfl k) ?_
  show Goes p e below (s₁.setTop (mkF m 1 #[.val (.int p1), .val (.int p2), .val (.int p3), .val (.int p4), .unset, .unset, .unset, .unset] [(.int p4)])) _
  refine Goes.via (fun t k => X0.ldcInt hx hown (mvT hZ (hw _ (List.mem_of_getElem? (i := 0) rfl))) (g := (mkF m 1 #[.val (.int p1), .val (.int p2), .val (.int p3), .val (.int p4), .unset, .unset, .unset, .unset] [(.int p4)])) rfl (hb hby at_1) _ k) ?_
  show Goes p e below (s₁.setTop (mkF m 3 #[.val (.int p1), .val (.int p2), .val (.int p3), .val (.int p4), .unset, .unset, .unset, .unset] [(.int (2147483647 : Int32)), (.int p4)])) _
  refine Goes.via (fun t k => XS.iand X0.here hx rfl (hb hby at_3) rfl k) ?_
  show Goes p e below (s₁.setTop (mkF m 4 #[.val (.int p1), .val (.int p2), .val (.int p3), .val (.int p4), .unset, .unset, .unset, .unset] [(.int (p4 &&& (2147483647 : Int32)))])) _
  refine Goes.via (fun t k => XS.bipush X0.here hx rfl (hb hby at_4) k) ?_
  show Goes p e below (s₁.setTop (mkF m 6 #[.val (.int p1), .val (.int p2), .val (.int p3), .val (.int p4), .unset, .unset, .unset, .unset] [(.int (33 : Int32)), (.int (p4 &&& (2147483647 : Int32)))])) _
  refine Goes.via (fun t k => iremM X0 hx rfl (hb hby at_6) rfl (by decide) k) ?_
  show Goes p e below (s₁.setTop (mkF m 7 #[.val (.int p1), .val (.int p2), .val (.int p3), .val (.int p4), .unset, .unset, .unset, .unset] [(.int ((p4 &&& (2147483647 : Int32)) % (33 : Int32)))])) _
  refine Goes.via (fun t k => XS.istore X0.here hx rfl (hb hby at_7) rfl (l' := #[.val (.int p1), .val (.int p2), .val (.int p3), .val (.int p4), .val (.int ((p4 &&& (2147483647 : Int32)) % (33 : Int32))), .unset, .unset, .unset]) rfl k) ?_
  show Goes p e below (s₁.setTop (mkF m 9 #[.val (.int p1), .val (.int p2), .val (.int p3), .val (.int p4), .val (.int ((p4 &&& (2147483647 : Int32)) % (33 : Int32))), .unset, .unset, .unset] [])) _
  refine Goes.via (fun t k => X0.ldc2Long hx hown (mvT hZ (hw _ (List.mem_of_getElem? (i := 1) rfl))) (g := (mkF m 9 #[.val (.int p1), .val (.int p2), .val (.int p3), .val (.int p4), .val (.int ((p4 &&& (2147483647 : Int32)) % (33 : Int32))), .unset, .unset, .unset] [])) rfl (hb hby at_9) _ k) ?_
  show Goes p e below (s₁.setTop (mkF m 12 #[.val (.int p1), .val (.int p2), .val (.int p3), .val (.int p4), .val (.int ((p4 &&& (2147483647 : Int32)) % (33 : Int32))), .unset, .unset, .unset] [(.long (4294967295 : Int64))])) _
  refine Goes.via (fun t k => XS.bipush X0.here hx rfl (hb hby at_12) k) ?_
  show Goes p e below (s₁.setTop (mkF m 14 #[.val (.int p1), .val (.int p2), .val (.int p3), .val (.int p4), .val (.int ((p4 &&& (2147483647 : Int32)) % (33 : Int32))), .unset, .unset, .unset] [(.int (32 : Int32)), (.long (4294967295 : Int64))])) _
  refine Goes.via (fun t k => XS.iload X0.here hx rfl (hb hby at_14) rfl k) ?_
  show Goes p e below (s₁.setTop (mkF m 16 #[.val (.int p1), .val (.int p2), .val (.int p3), .val (.int p4), .val (.int ((p4 &&& (2147483647 : Int32)) % (33 : Int32))), .unset, .unset, .unset] [(.int ((p4 &&& (2147483647 : Int32)) % (33 : Int32))), (.int (32 : Int32)), (.long (4294967295 : Int64))])) _
  refine Goes.via (fun t k => XS.isub X0.here hx rfl (hb hby at_16) rfl k) ?_
  show Goes p e below (s₁.setTop (mkF m 17 #[.val (.int p1), .val (.int p2), .val (.int p3), .val (.int p4), .val (.int ((p4 &&& (2147483647 : Int32)) % (33 : Int32))), .unset, .unset, .unset] [(.int ((32 : Int32) - ((p4 &&& (2147483647 : Int32)) % (33 : Int32)))), (.long (4294967295 : Int64))])) _
  refine Goes.via (fun t k => XS.lshl X0.here hx rfl (hb hby at_17) rfl k) ?_
  show Goes p e below (s₁.setTop (mkF m 18 #[.val (.int p1), .val (.int p2), .val (.int p3), .val (.int p4), .val (.int ((p4 &&& (2147483647 : Int32)) % (33 : Int32))), .unset, .unset, .unset] [(.long ((4294967295 : Int64) <<< (((32 : Int32) - ((p4 &&& (2147483647 : Int32)) % (33 : Int32))) &&& 0x3f).toInt64))])) _
  refine Goes.via (fun t k => XS.l2i X0.here hx rfl (hb hby at_18) rfl k) ?_
  show Goes p e below (s₁.setTop (mkF m 19 #[.val (.int p1), .val (.int p2), .val (.int p3), .val (.int p4), .val (.int ((p4 &&& (2147483647 : Int32)) % (33 : Int32))), .unset, .unset, .unset] [(.int (((4294967295 : Int64) <<< (((32 : Int32) - ((p4 &&& (2147483647 : Int32)) % (33 : Int32))) &&& 0x3f).toInt64).toInt32))])) _
  refine Goes.via (fun t k => XS.istore X0.here hx rfl (hb hby at_19) rfl (l' := #[.val (.int p1), .val (.int p2), .val (.int p3), .val (.int p4), .val (.int ((p4 &&& (2147483647 : Int32)) % (33 : Int32))), .val (.int (v0_19_0 p4)), .unset, .unset]) rfl k) ?_
  show Goes p e below (s₁.setTop (mkF m 21 #[.val (.int p1), .val (.int p2), .val (.int p3), .val (.int p4), .val (.int ((p4 &&& (2147483647 : Int32)) % (33 : Int32))), .val (.int (v0_19_0 p4)), .unset, .unset] [])) _
  refine Goes.via (fun t k => XS.iloadN X0.here hx rfl (hb hby at_21) rfl k) ?_
  show Goes p e below (s₁.setTop (mkF m 22 #[.val (.int p1), .val (.int p2), .val (.int p3), .val (.int p4), .val (.int ((p4 &&& (2147483647 : Int32)) % (33 : Int32))), .val (.int (v0_19_0 p4)), .unset, .unset] [(.int p1)])) _
  refine Goes.via (fun t k => XS.iloadN X0.here hx rfl (hb hby at_22) rfl k) ?_
  show Goes p e below (s₁.setTop (mkF m 23 #[.val (.int p1), .val (.int p2), .val (.int p3), .val (.int p4), .val (.int ((p4 &&& (2147483647 : Int32)) % (33 : Int32))), .val (.int (v0_19_0 p4)), .unset, .unset] [(.int p2), (.int p1)])) _
  refine Goes.via (fun t k => XS.iloadN X0.here hx rfl (hb hby at_23) rfl k) ?_
  show Goes p e below (s₁.setTop (mkF m 24 #[.val (.int p1), .val (.int p2), .val (.int p3), .val (.int p4), .val (.int ((p4 &&& (2147483647 : Int32)) % (33 : Int32))), .val (.int (v0_19_0 p4)), .unset, .unset] [(.int p3), (.int p2), (.int p1)])) _
  refine Goes.via (fun t k => XS.bipush X0.here hx rfl (hb hby at_24) k) ?_
  show Goes p e below (s₁.setTop (mkF m 26 #[.val (.int p1), .val (.int p2), .val (.int p3), .val (.int p4), .val (.int ((p4 &&& (2147483647 : Int32)) % (33 : Int32))), .val (.int (v0_19_0 p4)), .unset, .unset] [(.int (31 : Int32)), (.int p3), (.int p2), (.int p1)])) _
  refine Goes.via (fun t k => XS.iand X0.here hx rfl (hb hby at_26) rfl k) ?_
  show Goes p e below (s₁.setTop (mkF m 27 #[.val (.int p1), .val (.int p2), .val (.int p3), .val (.int p4), .val (.int ((p4 &&& (2147483647 : Int32)) % (33 : Int32))), .val (.int (v0_19_0 p4)), .unset, .unset] [(.int (p3 &&& (31 : Int32))), (.int p2), (.int p1)])) _
  refine Goes.via (fun t k => XS.iushr X0.here hx rfl (hb hby at_27) rfl k) ?_
  show Goes p e below (s₁.setTop (mkF m 28 #[.val (.int p1), .val (.int p2), .val (.int p3), .val (.int p4), .val (.int ((p4 &&& (2147483647 : Int32)) % (33 : Int32))), .val (.int (v0_19_0 p4)), .unset, .unset] [(.int ((p2.toUInt32 >>> ((p3 &&& (31 : Int32)) &&& 31).toUInt32).toInt32)), (.int p1)])) _
  refine Goes.via (fun t k => XS.ixor X0.here hx rfl (hb hby at_28) rfl k) ?_
  show Goes p e below (s₁.setTop (mkF m 29 #[.val (.int p1), .val (.int p2), .val (.int p3), .val (.int p4), .val (.int ((p4 &&& (2147483647 : Int32)) % (33 : Int32))), .val (.int (v0_19_0 p4)), .unset, .unset] [(.int (p1 ^^^ ((p2.toUInt32 >>> ((p3 &&& (31 : Int32)) &&& 31).toUInt32).toInt32)))])) _
  refine Goes.via (fun t k => XS.istore X0.here hx rfl (hb hby at_29) rfl (l' := #[.val (.int p1), .val (.int p2), .val (.int p3), .val (.int p4), .val (.int ((p4 &&& (2147483647 : Int32)) % (33 : Int32))), .val (.int (v0_19_0 p4)), .val (.int (v0_29_1 p1 p2 p3)), .unset]) rfl k) ?_
  show Goes p e below (s₁.setTop (mkF m 31 #[.val (.int p1), .val (.int p2), .val (.int p3), .val (.int p4), .val (.int ((p4 &&& (2147483647 : Int32)) % (33 : Int32))), .val (.int (v0_19_0 p4)), .val (.int (v0_29_1 p1 p2 p3)), .unset] [])) _
  refine Goes.via (fun t k => XS.iload X0.here hx rfl (hb hby at_31) rfl k) ?_
  show Goes p e below (s₁.setTop (mkF m 33 #[.val (.int p1), .val (.int p2), .val (.int p3), .val (.int p4), .val (.int ((p4 &&& (2147483647 : Int32)) % (33 : Int32))), .val (.int (v0_19_0 p4)), .val (.int (v0_29_1 p1 p2 p3)), .unset] [(.int ((p4 &&& (2147483647 : Int32)) % (33 : Int32)))])) _
  refine Goes.via (next := s₁.setTop (mkF m 62 #[.val (.int p1), .val (.int p2), .val (.int p3), .val (.int p4), .val (.int ((p4 &&& (2147483647 : Int32)) % (33 : Int32))), .val (.int (v0_19_0 p4)), .val (.int (v0_29_1 p1 p2 p3)), .val (.int (v0_62_2 p1 p2 p3 p4))] [])) (fun t k => ?_) ?_
  · by_cases hc33_1 : ((p4 &&& (2147483647 : Int32)) % (33 : Int32)) = (0 : Int32)
    · refine XS.ifNo X0.here hx rfl (hb hby at_33) rfl ((if0 _ _).trans (teq hc33_1).2) ?_
      show Steps p.tables e below (s₁.setTop (mkF m 36 #[.val (.int p1), .val (.int p2), .val (.int p3), .val (.int p4), .val (.int ((p4 &&& (2147483647 : Int32)) % (33 : Int32))), .val (.int (v0_19_0 p4)), .val (.int (v0_29_1 p1 p2 p3)), .unset] [])) _
      refine XS.iconst X0.here hx rfl (hb hby at_36) ?_
      show Steps p.tables e below (s₁.setTop (mkF m 37 #[.val (.int p1), .val (.int p2), .val (.int p3), .val (.int p4), .val (.int ((p4 &&& (2147483647 : Int32)) % (33 : Int32))), .val (.int (v0_19_0 p4)), .val (.int (v0_29_1 p1 p2 p3)), .unset] [(.int (1 : Int32))])) _
      refine XS.istore X0.here hx rfl (hb hby at_37) rfl (l' := #[.val (.int p1), .val (.int p2), .val (.int p3), .val (.int p4), .val (.int ((p4 &&& (2147483647 : Int32)) % (33 : Int32))), .val (.int (v0_19_0 p4)), .val (.int (v0_29_1 p1 p2 p3)), .val (.int (1 : Int32))]) rfl ?_
      show Steps p.tables e below (s₁.setTop (mkF m 39 #[.val (.int p1), .val (.int p2), .val (.int p3), .val (.int p4), .val (.int ((p4 &&& (2147483647 : Int32)) % (33 : Int32))), .val (.int (v0_19_0 p4)), .val (.int (v0_29_1 p1 p2 p3)), .val (.int (1 : Int32))] [])) _
      refine XS.goto X0.here hx rfl (pc0 := 39) (pc' := 62) rfl (hb hby at_39) (by decide) (by decide) ?_
      show Steps p.tables e below (s₁.setTop (mkF m 62 #[.val (.int p1), .val (.int p2), .val (.int p3), .val (.int p4), .val (.int ((p4 &&& (2147483647 : Int32)) % (33 : Int32))), .val (.int (v0_19_0 p4)), .val (.int (v0_29_1 p1 p2 p3)), .val (.int (1 : Int32))] [])) _
      simpa only [v0_62_2, if_pos hc33_1] using k
    · refine XS.ifYes X0.here hx rfl (pc0 := 33) (pc' := 42) rfl (hb hby at_33) rfl ((if0 _ _).trans (feq hc33_1).2) (by decide) (by decide) ?_
      show Steps p.tables e below (s₁.setTop (mkF m 42 #[.val (.int p1), .val (.int p2), .val (.int p3), .val (.int p4), .val (.int ((p4 &&& (2147483647 : Int32)) % (33 : Int32))), .val (.int (v0_19_0 p4)), .val (.int (v0_29_1 p1 p2 p3)), .unset] [])) _
      refine XS.iload X0.here hx rfl (hb hby at_42) rfl ?_
      show Steps p.tables e below (s₁.setTop (mkF m 44 #[.val (.int p1), .val (.int p2), .val (.int p3), .val (.int p4), .val (.int ((p4 &&& (2147483647 : Int32)) % (33 : Int32))), .val (.int (v0_19_0 p4)), .val (.int (v0_29_1 p1 p2 p3)), .unset] [(.int (v0_29_1 p1 p2 p3))])) _
      refine XS.iloadN X0.here hx rfl (hb hby at_44) rfl ?_
      show Steps p.tables e below (s₁.setTop (mkF m 45 #[.val (.int p1), .val (.int p2), .val (.int p3), .val (.int p4), .val (.int ((p4 &&& (2147483647 : Int32)) % (33 : Int32))), .val (.int (v0_19_0 p4)), .val (.int (v0_29_1 p1 p2 p3)), .unset] [(.int p1), (.int (v0_29_1 p1 p2 p3))])) _
      refine XS.ixor X0.here hx rfl (hb hby at_45) rfl ?_
      show Steps p.tables e below (s₁.setTop (mkF m 46 #[.val (.int p1), .val (.int p2), .val (.int p3), .val (.int p4), .val (.int ((p4 &&& (2147483647 : Int32)) % (33 : Int32))), .val (.int (v0_19_0 p4)), .val (.int (v0_29_1 p1 p2 p3)), .unset] [(.int ((v0_29_1 p1 p2 p3) ^^^ p1))])) _
      refine XS.bipush X0.here hx rfl (hb hby at_46) ?_
      show Steps p.tables e below (s₁.setTop (mkF m 48 #[.val (.int p1), .val (.int p2), .val (.int p3), .val (.int p4), .val (.int ((p4 &&& (2147483647 : Int32)) % (33 : Int32))), .val (.int (v0_19_0 p4)), .val (.int (v0_29_1 p1 p2 p3)), .unset] [(.int (32 : Int32)), (.int ((v0_29_1 p1 p2 p3) ^^^ p1))])) _
      refine XS.iload X0.here hx rfl (hb hby at_48) rfl ?_
      show Steps p.tables e below (s₁.setTop (mkF m 50 #[.val (.int p1), .val (.int p2), .val (.int p3), .val (.int p4), .val (.int ((p4 &&& (2147483647 : Int32)) % (33 : Int32))), .val (.int (v0_19_0 p4)), .val (.int (v0_29_1 p1 p2 p3)), .unset] [(.int ((p4 &&& (2147483647 : Int32)) % (33 : Int32))), (.int (32 : Int32)), (.int ((v0_29_1 p1 p2 p3) ^^^ p1))])) _
      refine XS.isub X0.here hx rfl (hb hby at_50) rfl ?_
      show Steps p.tables e below (s₁.setTop (mkF m 51 #[.val (.int p1), .val (.int p2), .val (.int p3), .val (.int p4), .val (.int ((p4 &&& (2147483647 : Int32)) % (33 : Int32))), .val (.int (v0_19_0 p4)), .val (.int (v0_29_1 p1 p2 p3)), .unset] [(.int ((32 : Int32) - ((p4 &&& (2147483647 : Int32)) % (33 : Int32)))), (.int ((v0_29_1 p1 p2 p3) ^^^ p1))])) _
      refine XS.iushr X0.here hx rfl (hb hby at_51) rfl ?_
      show Steps p.tables e below (s₁.setTop (mkF m 52 #[.val (.int p1), .val (.int p2), .val (.int p3), .val (.int p4), .val (.int ((p4 &&& (2147483647 : Int32)) % (33 : Int32))), .val (.int (v0_19_0 p4)), .val (.int (v0_29_1 p1 p2 p3)), .unset] [(.int ((((v0_29_1 p1 p2 p3) ^^^ p1).toUInt32 >>> (((32 : Int32) - ((p4 &&& (2147483647 : Int32)) % (33 : Int32))) &&& 31).toUInt32).toInt32))])) _
      by_cases hc52_2 : ((((v0_29_1 p1 p2 p3) ^^^ p1).toUInt32 >>> (((32 : Int32) - ((p4 &&& (2147483647 : Int32)) % (33 : Int32))) &&& 31).toUInt32).toInt32) = (0 : Int32)
      · refine XS.ifNo X0.here hx rfl (hb hby at_52) rfl ((if0 _ _).trans (teq hc52_2).2) ?_
        show Steps p.tables e below (s₁.setTop (mkF m 55 #[.val (.int p1), .val (.int p2), .val (.int p3), .val (.int p4), .val (.int ((p4 &&& (2147483647 : Int32)) % (33 : Int32))), .val (.int (v0_19_0 p4)), .val (.int (v0_29_1 p1 p2 p3)), .unset] [])) _
        refine XS.iconst X0.here hx rfl (hb hby at_55) ?_
        show Steps p.tables e below (s₁.setTop (mkF m 56 #[.val (.int p1), .val (.int p2), .val (.int p3), .val (.int p4), .val (.int ((p4 &&& (2147483647 : Int32)) % (33 : Int32))), .val (.int (v0_19_0 p4)), .val (.int (v0_29_1 p1 p2 p3)), .unset] [(.int (1 : Int32))])) _
        refine XS.goto X0.here hx rfl (pc0 := 56) (pc' := 60) rfl (hb hby at_56) (by decide) (by decide) ?_
        show Steps p.tables e below (s₁.setTop (mkF m 60 #[.val (.int p1), .val (.int p2), .val (.int p3), .val (.int p4), .val (.int ((p4 &&& (2147483647 : Int32)) % (33 : Int32))), .val (.int (v0_19_0 p4)), .val (.int (v0_29_1 p1 p2 p3)), .unset] [(.int (1 : Int32))])) _
        refine XS.istore X0.here hx rfl (hb hby at_60) rfl (l' := #[.val (.int p1), .val (.int p2), .val (.int p3), .val (.int p4), .val (.int ((p4 &&& (2147483647 : Int32)) % (33 : Int32))), .val (.int (v0_19_0 p4)), .val (.int (v0_29_1 p1 p2 p3)), .val (.int (1 : Int32))]) rfl ?_
        show Steps p.tables e below (s₁.setTop (mkF m 62 #[.val (.int p1), .val (.int p2), .val (.int p3), .val (.int p4), .val (.int ((p4 &&& (2147483647 : Int32)) % (33 : Int32))), .val (.int (v0_19_0 p4)), .val (.int (v0_29_1 p1 p2 p3)), .val (.int (1 : Int32))] [])) _
        simpa only [v0_62_2, if_neg hc33_1, if_pos hc52_2] using k
      · refine XS.ifYes X0.here hx rfl (pc0 := 52) (pc' := 59) rfl (hb hby at_52) rfl ((if0 _ _).trans (feq hc52_2).2) (by decide) (by decide) ?_
        show Steps p.tables e below (s₁.setTop (mkF m 59 #[.val (.int p1), .val (.int p2), .val (.int p3), .val (.int p4), .val (.int ((p4 &&& (2147483647 : Int32)) % (33 : Int32))), .val (.int (v0_19_0 p4)), .val (.int (v0_29_1 p1 p2 p3)), .unset] [])) _
        refine XS.iconst X0.here hx rfl (hb hby at_59) ?_
        show Steps p.tables e below (s₁.setTop (mkF m 60 #[.val (.int p1), .val (.int p2), .val (.int p3), .val (.int p4), .val (.int ((p4 &&& (2147483647 : Int32)) % (33 : Int32))), .val (.int (v0_19_0 p4)), .val (.int (v0_29_1 p1 p2 p3)), .unset] [(.int (0 : Int32))])) _
        refine XS.istore X0.here hx rfl (hb hby at_60) rfl (l' := #[.val (.int p1), .val (.int p2), .val (.int p3), .val (.int p4), .val (.int ((p4 &&& (2147483647 : Int32)) % (33 : Int32))), .val (.int (v0_19_0 p4)), .val (.int (v0_29_1 p1 p2 p3)), .val (.int (0 : Int32))]) rfl ?_
        show Steps p.tables e below (s₁.setTop (mkF m 62 #[.val (.int p1), .val (.int p2), .val (.int p3), .val (.int p4), .val (.int ((p4 &&& (2147483647 : Int32)) % (33 : Int32))), .val (.int (v0_19_0 p4)), .val (.int (v0_29_1 p1 p2 p3)), .val (.int (0 : Int32))] [])) _
        simpa only [v0_62_2, if_neg hc33_1, if_neg hc52_2] using k
  show Goes p e below (s₁.setTop (mkF m 62 #[.val (.int p1), .val (.int p2), .val (.int p3), .val (.int p4), .val (.int ((p4 &&& (2147483647 : Int32)) % (33 : Int32))), .val (.int (v0_19_0 p4)), .val (.int (v0_29_1 p1 p2 p3)), .val (.int (v0_62_2 p1 p2 p3 p4))] [])) _
  refine Goes.via (fun t k => XS.iload X0.here hx rfl (hb hby at_62) rfl k) ?_
  show Goes p e below (s₁.setTop (mkF m 64 #[.val (.int p1), .val (.int p2), .val (.int p3), .val (.int p4), .val (.int ((p4 &&& (2147483647 : Int32)) % (33 : Int32))), .val (.int (v0_19_0 p4)), .val (.int (v0_29_1 p1 p2 p3)), .val (.int (v0_62_2 p1 p2 p3 p4))] [(.int (v0_29_1 p1 p2 p3))])) _
  refine Goes.via (fun t k => XS.iloadN X0.here hx rfl (hb hby at_64) rfl k) ?_
  show Goes p e below (s₁.setTop (mkF m 65 #[.val (.int p1), .val (.int p2), .val (.int p3), .val (.int p4), .val (.int ((p4 &&& (2147483647 : Int32)) % (33 : Int32))), .val (.int (v0_19_0 p4)), .val (.int (v0_29_1 p1 p2 p3)), .val (.int (v0_62_2 p1 p2 p3 p4))] [(.int p1), (.int (v0_29_1 p1 p2 p3))])) _
  refine Goes.via (fun t k => XS.iload X0.here hx rfl (hb hby at_65) rfl k) ?_
  show Goes p e below (s₁.setTop (mkF m 67 #[.val (.int p1), .val (.int p2), .val (.int p3), .val (.int p4), .val (.int ((p4 &&& (2147483647 : Int32)) % (33 : Int32))), .val (.int (v0_19_0 p4)), .val (.int (v0_29_1 p1 p2 p3)), .val (.int (v0_62_2 p1 p2 p3 p4))] [(.int (v0_19_0 p4)), (.int p1), (.int (v0_29_1 p1 p2 p3))])) _
  obtain ⟨_, _, ⟨T3, L3, k3, n3⟩, -, X3, ⟨Lc3, hQ3, l3, y3, z3⟩, st3⟩ := Jvm.LawKit.callS X0 hx (y := (⟨"com/example/lean_lease/leanlease/wire/Ipv4", "inSubnet", "(III)Z"⟩ : MethodName)) hown (mvT hZ (hw _ (List.mem_of_getElem? (i := 2) rfl))) (mvT hZ (hw _ (List.mem_of_getElem? (i := 3) rfl))) (mvT hZ (hw _ (List.mem_of_getElem? (i := 4) rfl))) (mvT hZ (hw _ (List.mem_of_getElem? (i := 5) rfl))) (by decide) (backOf (W := 0) (rm1 l Z a0 hw [] (v0_29_1 p1 p2 p3) p1 (v0_19_0 p4) h0 n0 Z0 ) hZ (hw _ (List.mem_of_getElem? (i := 5) rfl)) (hw _ (List.mem_of_getElem? (i := 4) rfl)) (by decide) (by decide)) (g := (mkF m 67 #[.val (.int p1), .val (.int p2), .val (.int p3), .val (.int p4), .val (.int ((p4 &&& (2147483647 : Int32)) % (33 : Int32))), .val (.int (v0_19_0 p4)), .val (.int (v0_29_1 p1 p2 p3)), .val (.int (v0_62_2 p1 p2 p3 p4))] [(.int (v0_19_0 p4)), (.int p1), (.int (v0_29_1 p1 p2 p3))])) rfl (by rw [hml]; rfl) (argsL := [(.int (v0_29_1 p1 p2 p3)), (.int p1), (.int (v0_19_0 p4))]) (rest := []) (lenOf pd_0_0 rfl) rfl (by show 2 * 0 + _ ≤ _; exact Nat.le_of_eq rfl) (hb hby at_67) (fun _ _ => ⟨rfl, e0, (by decide : 0 + 0 ≤ _), (by decide : 0 + 0 ≤ _)⟩)
  dsimp only [Pt.U, Pt.locs, Pt.cells, Pt.slots] at X3 l3 y3 z3 st3 hQ3
  subst l3 y3 z3
  obtain ⟨rfl, N3q, er3⟩ := hQ3
  have e3 : T3.heap = h0 := er3
  have N3 := Fr.app N0 N3q
  refine Goes.via st3 ?_
  show Goes p e below (T3.setTop (mkF m 70 #[.val (.int p1), .val (.int p2), .val (.int p3), .val (.int p4), .val (.int ((p4 &&& (2147483647 : Int32)) % (33 : Int32))), .val (.int (v0_19_0 p4)), .val (.int (v0_29_1 p1 p2 p3)), .val (.int (v0_62_2 p1 p2 p3 p4))] [(.int (f1 (v0_29_1 p1 p2 p3) p1 (v0_19_0 p4)))])) _
  refine Goes.via (fun t k => XS.iload X3.here hx rfl (hb hby at_70) rfl k) ?_
  show Goes p e below (T3.setTop (mkF m 72 #[.val (.int p1), .val (.int p2), .val (.int p3), .val (.int p4), .val (.int ((p4 &&& (2147483647 : Int32)) % (33 : Int32))), .val (.int (v0_19_0 p4)), .val (.int (v0_29_1 p1 p2 p3)), .val (.int (v0_62_2 p1 p2 p3 p4))] [(.int (v0_62_2 p1 p2 p3 p4)), (.int (f1 (v0_29_1 p1 p2 p3) p1 (v0_19_0 p4)))])) _
  refine Goes.via (next := T3.setTop (mkF m 80 #[.val (.int p1), .val (.int p2), .val (.int p3), .val (.int p4), .val (.int ((p4 &&& (2147483647 : Int32)) % (33 : Int32))), .val (.int (v0_19_0 p4)), .val (.int (v0_29_1 p1 p2 p3)), .val (.int (v0_62_2 p1 p2 p3 p4))] [(.int (v0_80_3 p1 p2 p3 p4))])) (fun t k => ?_) ?_
  · by_cases hc72_4 : (f1 (v0_29_1 p1 p2 p3) p1 (v0_19_0 p4)) = (v0_62_2 p1 p2 p3 p4)
    · refine XS.icmpNo X3.here hx rfl (hb hby at_72) rfl (teq hc72_4).2 ?_
      show Steps p.tables e below (T3.setTop (mkF m 75 #[.val (.int p1), .val (.int p2), .val (.int p3), .val (.int p4), .val (.int ((p4 &&& (2147483647 : Int32)) % (33 : Int32))), .val (.int (v0_19_0 p4)), .val (.int (v0_29_1 p1 p2 p3)), .val (.int (v0_62_2 p1 p2 p3 p4))] [])) _
      refine XS.iconst X3.here hx rfl (hb hby at_75) ?_
      show Steps p.tables e below (T3.setTop (mkF m 76 #[.val (.int p1), .val (.int p2), .val (.int p3), .val (.int p4), .val (.int ((p4 &&& (2147483647 : Int32)) % (33 : Int32))), .val (.int (v0_19_0 p4)), .val (.int (v0_29_1 p1 p2 p3)), .val (.int (v0_62_2 p1 p2 p3 p4))] [(.int (1 : Int32))])) _
      refine XS.goto X3.here hx rfl (pc0 := 76) (pc' := 80) rfl (hb hby at_76) (by decide) (by decide) ?_
      show Steps p.tables e below (T3.setTop (mkF m 80 #[.val (.int p1), .val (.int p2), .val (.int p3), .val (.int p4), .val (.int ((p4 &&& (2147483647 : Int32)) % (33 : Int32))), .val (.int (v0_19_0 p4)), .val (.int (v0_29_1 p1 p2 p3)), .val (.int (v0_62_2 p1 p2 p3 p4))] [(.int (1 : Int32))])) _
      simpa only [v0_80_3, if_pos hc72_4] using k
    · refine XS.icmpYes X3.here hx rfl (pc0 := 72) (pc' := 79) rfl (hb hby at_72) rfl (feq hc72_4).2 (by decide) (by decide) ?_
      show Steps p.tables e below (T3.setTop (mkF m 79 #[.val (.int p1), .val (.int p2), .val (.int p3), .val (.int p4), .val (.int ((p4 &&& (2147483647 : Int32)) % (33 : Int32))), .val (.int (v0_19_0 p4)), .val (.int (v0_29_1 p1 p2 p3)), .val (.int (v0_62_2 p1 p2 p3 p4))] [])) _
      refine XS.iconst X3.here hx rfl (hb hby at_79) ?_
      show Steps p.tables e below (T3.setTop (mkF m 80 #[.val (.int p1), .val (.int p2), .val (.int p3), .val (.int p4), .val (.int ((p4 &&& (2147483647 : Int32)) % (33 : Int32))), .val (.int (v0_19_0 p4)), .val (.int (v0_29_1 p1 p2 p3)), .val (.int (v0_62_2 p1 p2 p3 p4))] [(.int (0 : Int32))])) _
      simpa only [v0_80_3, if_neg hc72_4] using k
  show Goes p e below (T3.setTop (mkF m 80 #[.val (.int p1), .val (.int p2), .val (.int p3), .val (.int p4), .val (.int ((p4 &&& (2147483647 : Int32)) % (33 : Int32))), .val (.int (v0_19_0 p4)), .val (.int (v0_29_1 p1 p2 p3)), .val (.int (v0_62_2 p1 p2 p3 p4))] [(.int (v0_80_3 p1 p2 p3 p4))])) _
  obtain ⟨fs, hr, hrun, hended, hW, hsame⟩ := X3.leave (v := some (.int (nar .boolean (v0_80_3 p1 p2 p3 p4)))) (fun h => by rw [Bd.returns] at h; cases h)
  refine ⟨_, _, ?_, hrun, hended, _, _, rfl, ?_, ⟨_, rfl⟩, hW, hsame.mono (by decide) (by decide)⟩
  · exact retN X3 hx (t := .boolean) Bd.returns (by simp) (hb hby at_80) hr
  · show Q0 Z p1 p2 p3 p4 h0 n0 _ T3.heap _
    rw [e3]
    exact ⟨congrArg some (congrArg _ rfl), N3, rfl⟩
theorem own_bv (a m : BitVec 32) (s : Nat) : (a &&& (BitVec.allOnes 32 <<< s) = m &&& (BitVec.allOnes 32 <<< s)) ↔ (a ^^^ m) >>> s = 0#32 := by
  constructor
  · intro h
    apply BitVec.eq_of_getLsbD_eq
    intro i hi
    have q := congrArg (fun z => z.getLsbD (s + i)) h
    simp only [BitVec.getLsbD_and, BitVec.getLsbD_shiftLeft, BitVec.getLsbD_allOnes] at q
    simp only [BitVec.getLsbD_ushiftRight, BitVec.getLsbD_xor, BitVec.getLsbD_zero]
    by_cases h2 : s + i < 32
    · have h3 : ¬ s + i < s := by omega
      have h4 : s + i - s < 32 := by omega
      simp only [h2, h3, h4, decide_true, decide_false, Bool.not_false, Bool.true_and, Bool.and_true] at q
      rw [q]; simp
    · rw [BitVec.getLsbD_of_ge _ _ (by omega), BitVec.getLsbD_of_ge _ _ (by omega)]; rfl
  · intro h
    apply BitVec.eq_of_getLsbD_eq
    intro i hi
    simp only [BitVec.getLsbD_and, BitVec.getLsbD_shiftLeft, BitVec.getLsbD_allOnes]
    by_cases h2 : i < s
    · simp [h2]
    · have q := congrArg (fun z => z.getLsbD (i - s)) h
      simp only [BitVec.getLsbD_ushiftRight, BitVec.getLsbD_xor, BitVec.getLsbD_zero] at q
      have h3 : s + (i - s) = i := by omega
      rw [h3] at q
      have h4 : a.getLsbD i = m.getLsbD i := by
        revert q; cases a.getLsbD i <;> cases m.getLsbD i <;> simp
      rw [h4]
theorem own_i32 (a m k : Int32) (s : Nat) (hk : k.toBitVec = BitVec.allOnes 32 <<< s) : (a &&& k = m &&& k) ↔ (a ^^^ m).toBitVec >>> s = 0#32 := by
  rw [← Int32.toBitVec_inj, Int32.toBitVec_and, Int32.toBitVec_and, hk, own_bv, Int32.toBitVec_xor]
theorem own_range {c : Int32} (k : Nat) (hk : k ≤ 1000) (h0 : 0 ≤ c.toInt) (h1 : c.toInt < k) : ∃ n : Fin k, c = Int32.ofNat n.val := by
  refine ⟨⟨c.toInt.toNat, by omega⟩, ?_⟩
  apply Int32.toInt_inj.mp
  rw [Int32.toInt_ofNat_of_lt (by omega)]
  show c.toInt = ((c.toInt.toNat : Nat) : Int)
  omega
/-- the prefix as a number, its mask, its shift -/
theorem own_tab : ∀ n : Fin 33, ((((4294967295 : Int64) <<< (((32 : Int32) - Int32.ofNat n.val) &&& 0x3f).toInt64).toInt32) : Int32).toBitVec = (if n.val = 0 then 0#32 else BitVec.allOnes 32 <<< (32 - n.val)) ∧ (n.val ≠ 0 → ((((32 : Int32) - Int32.ofNat n.val) &&& 31).toUInt32.toBitVec % 32#32).toNat = 32 - n.val) ∧ (Int32.ofNat n.val = 0 ↔ n.val = 0) := by decide +kernel
theorem own_shift (x y : Int32) (s : Nat) (h : ((y &&& 31).toUInt32.toBitVec % 32#32).toNat = s) : ((x.toUInt32 >>> (y &&& 31).toUInt32).toInt32 = 0) ↔ x.toBitVec >>> s = 0#32 := by
  rw [← Int32.toBitVec_inj, ← h]
  exact Iff.rfl
theorem own_law (a m : Int32) (n : Fin 33) : f1 a m (((4294967295 : Int64) <<< (((32 : Int32) - Int32.ofNat n.val) &&& 0x3f).toInt64).toInt32) = (if Int32.ofNat n.val = (0 : Int32) then (1 : Int32) else (if (((a ^^^ m).toUInt32 >>> (((32 : Int32) - Int32.ofNat n.val) &&& 31).toUInt32).toInt32) = (0 : Int32) then (1 : Int32) else (0 : Int32))) := by
  obtain ⟨t1, t2, t3⟩ := own_tab n
  generalize hk : (((4294967295 : Int64) <<< (((32 : Int32) - Int32.ofNat n.val) &&& 0x3f).toInt64).toInt32) = k at *
  simp only [f1, v1_18_0]
  by_cases h0 : n.val = 0
  · rw [if_pos (t3.mpr h0)]
    rw [if_pos h0] at t1
    have hz : k = 0 := Int32.toBitVec_inj.mp t1
    subst hz
    have z : ∀ q : Int32, q &&& 0 = 0 := fun q => by apply Int32.toBitVec_inj.mp; rw [Int32.toBitVec_and]; exact BitVec.and_zero
    have e : f2 a 0 = f2 m 0 := (z a).trans (z m).symm
    rw [if_pos e]; decide
  · rw [if_neg (fun q => h0 (t3.mp q))]
    rw [if_neg h0] at t1
    by_cases h1 : f2 a k = f2 m k
    · rw [if_pos h1, if_pos ((own_shift _ _ _ (t2 h0)).mpr ((own_i32 a m k _ t1).mp h1))]; decide
    · rw [if_neg h1, if_neg (fun q => h1 ((own_i32 a m k _ t1).mpr ((own_shift _ _ _ (t2 h0)).mp q)))]; decide
theorem own_pre (p : Int32) : ∃ n : Fin 33, ((p &&& (2147483647 : Int32)) % (33 : Int32)) = Int32.ofNat n.val := by
  have e3 : (33 : Int32).toInt = 33 := by decide
  have a1 := c_mask p 2147483647 31 (by decide) (by decide)
  have a2 := (c_irem (p &&& 2147483647) 33 33 e3).1
  have hp : ((2 ^ 31 : Nat) : Int) = 2147483648 := by decide
  rw [hp] at a1
  have a4 := a2 (by omega)
  exact own_range 33 (by decide) (by omega) (by omega)
theorem one_1 (i0 i1 i2 i3 : Int32) : f0 i0 i1 i2 i3 = 1 := by
  obtain ⟨n, hn⟩ := own_pre i3
  have h : f1 (v0_29_1 i0 i1 i2) i0 (v0_19_0 i3) = v0_62_2 i0 i1 i2 i3 := by
    have q := own_law (v0_29_1 i0 i1 i2) i0 n
    simp only [v0_19_0, v0_62_2, hn]
    exact q
  simp only [f0, v0_80_3, if_pos h]
  decide
set_option maxRecDepth 65536 in
set_option maxHeartbeats 40000000 in
theorem comes_1 {Post : Tables → Env → Array Value → State → Outcome → State → Prop} (hpost : ∀ tb e args s v u, (limb_1_1.after args s (.returned v) u = true ∧ limb_1_2.after args s (.returned v) u = true ∧ True) → FrameEnd s (.returned v) u (Jvm.fieldLocs frame_1_writes args s ++ Jvm.arrayLocs frame_1_arrays args s ++ Jvm.staticLocs frame_1_statics s) 0 0 → Post tb e args s (.returned v) u) :
    ArmFor flags0 classFile x code maxLocals ret World_1 tables_1 room_1 Calls_1 rest_1 Pre_1 Post := by
  intro l hfl _ _ p e ha hc hk s m args below hf hA hF happ hP
  obtain ⟨hcalls, hrest, hpre⟩ := hP
  obtain ⟨-, -, -, hnamed, -, -, -, hat⟩ := (Spec.applies_iff hf).mp happ
  obtain ⟨hg, hn⟩ := and_e (Cond.before_iff.mp (show (Jvm.Cond.and given_1 narrow_1).before args s = true from hpre))
  obtain ⟨g0, r0⟩ := and_e hg
  obtain ⟨w0, w1, w2, w3, rfl⟩ : ∃ w0 w1 w2 w3 : Value, args = #[w0, w1, w2, w3] := by
    have hs : args.size = 4 := by simpa [Cond.value, given_1] using g0
    obtain ⟨L⟩ := args
    match L, hs with
    | [w0, w1, w2, w3], _ => exact ⟨w0, w1, w2, w3, rfl⟩
  have hw := fun d (hd : d ∈ tables_1) => atoms_spec (ws := Jvm.Cond.code x code maxLocals ret :: tables_1) hat d (List.mem_cons_of_mem _ hd)
  obtain ⟨g1, r1⟩ := and_e r0
  obtain ⟨g2, r2⟩ := and_e r1
  obtain ⟨g3, r3⟩ := and_e r2
  have g4 := r3
  obtain ⟨i0, ei0⟩ := is_v g1
  obtain rfl : w0 = (.int i0) := Option.some.inj ei0
  obtain ⟨i1, ei1⟩ := is_v g2
  obtain rfl : w1 = (.int i1) := Option.some.inj ei1
  obtain ⟨i2, ei2⟩ := is_v g3
  obtain rfl : w2 = (.int i2) := Option.some.inj ei2
  obtain ⟨i3, ei3⟩ := is_v g4
  obtain rfl : w3 = (.int i3) := Option.some.inj ei3
  obtain ⟨n, o, h1, h2, h3, v, L, rfl, hQ, hq⟩ := rm0 l s _ hw tables_1 i0 i1 i2 i3  s.heap s.heap.size (Nat.le_refl _)  p e ha hc hk s m _ below hf ((Spec.applies_iff_loose hf).mp happ).1 ⟨rfl, State.Warmed39.refl s, rfl⟩ trivial
  obtain ⟨hv, N⟩ : v = some (.int 1) ∧ Fr s.heap.size L := ⟨by rw [hQ.1, one_1 i0 i1 i2 i3], hQ.2.1⟩
  subst hv
  refine ⟨n, _, h1, h2, h3, hpost _ _ _ _ _ _ ⟨Cond.after_iff.mpr rfl, Cond.after_iff.mpr (eq_i res_at (Term.int_eval (1)) rfl), trivial⟩ ⟨hq.1, hq.2.1, (hq.2.2.sift fun y hy => Or.inr (N y hy)).mono (by decide) (by decide)⟩⟩
theorem main_1_1 : Claimed_1_1 := comes_1 fun _ _ _ _ _ _ h hF => ⟨h.1, hF⟩
theorem main_1_2 : Claimed_1_2 := comes_1 fun _ _ _ _ _ _ h hF => ⟨h.2.1, hF⟩
end Jvm.Pilot.@@N@@
namespace Jvm.Pilot.@@N@@
open Jvm Jvm.ClassFile Sem Op Lib Jvm.Free Jvm.Stand Jvm.Pilot.@@N@@.Jvm.D
/-! MADE BY PROGRAM (witnessworld.py) out of the Statement's table words and the real class files: 9 classes; the members and pool entries that the words name. The judged class is class 1, her method 1. -/
namespace start1
open Jvm.ClassFile
def u (s : String) : CpInfo := .utf8 (stringToUtf16 s)
/-- a pool by its gaps: so many unusable entries, then the entry; so many at the end -/
def gap : Nat → List CpInfo → List CpInfo
  | 0, r => r
  | n + 1, r => .unusable :: gap n r
def poolList (es : List (Nat × CpInfo)) (last : Nat) : List CpInfo := es.foldr (fun e r => gap e.1 (e.2 :: r)) (gap last [])
def pool (es : List (Nat × CpInfo)) (last : Nat) : Array CpInfo := ⟨poolList es last⟩
def fileOf (pool : Array CpInfo) (this : Nat) (attrs : Array Attribute := #[]) (ms : Array MethodInfo := #[]) (fl : Nat := 33) (sup : Nat := 0) (ifs : Array Nat := #[]) (fds : Array FieldInfo := #[]) : ClassFile where
  minorVersion := 0
  majorVersion := 65
  constantPool := pool
  accessFlags := fl
  thisClass := this
  superClass := sup
  interfaces := ifs
  fields := fds
  methods := ms
  attributes := attrs
def plain (name : String) (sup : Option ClassId) : Class where
  name := name
  kind := .ordinary
  loader := none
  accessFlags := 33
  super := sup
  interfaces := #[]
  cf := none
  fields := #[]
  methods := #[]
  instanceTypes := #[]
  staticTypes := #[]
  resolved := #[]
  callSites := []
  init := .initialized
  statics := none
  mirror := none

def pool0 : Array CpInfo := pool [(5, u "<init>"), (0, u "()V"), (1, .class_ 10), (1, u "java/lang/Object")] 113

def k0m0 : Method := { name := "<init>", desc := "()V", sig := { parameters := [], returnType := none }, accessFlags := 1, code := none }
/-- java/lang/Object -/
def k0 : Class := { plain "java/lang/Object" none with
  accessFlags := 33
  interfaces := #[]
  cf := some (fileOf pool0 8 #[] #[{ accessFlags := 1, nameIndex := 5, descriptorIndex := 6, attributes := #[] }] 33 0 #[] #[])
  fields := #[]
  methods := #[k0m0]
  instanceTypes := #[]
  staticTypes := #[]
  resolved := Array.replicate 124 none
  statics := none }

def pool1 : Array CpInfo := pool [(2, .class_ 4), (1, u "java/lang/Object"), (0, u "<init>"), (0, u "()V"), (0, .integer 2147483647), (0, .long 4294967295), (1, .methodref 11 12), (0, .class_ 13), (0, .nameAndType 14 15), (0, u "com/example/lean_lease/leanlease/wire/Ipv4"), (0, u "inSubnet"), (0, u "(III)Z"), (0, .class_ 17), (0, u "com/example/lean_lease/leanlease/wire/Ipv4InSubnetPinLaw"), (2, u "law"), (0, u "(IIII)Z")] 3

def k1m0 : Method := { name := "<init>", desc := "()V", sig := { parameters := [], returnType := none }, accessFlags := 2, code := none }
def k1c1 : Code := { maxStack := 4, maxLocals := 8, code := code, exceptionTable := #[], attributes := #[] }
def k1m1 : Method := { name := "law", desc := "(IIII)Z", sig := { parameters := [.int, .int, .int, .int], returnType := some .boolean }, accessFlags := 9, code := some k1c1 }
/-- com/example/lean_lease/leanlease/wire/Ipv4InSubnetPinLaw -/
def k1 : Class := { plain "com/example/lean_lease/leanlease/wire/Ipv4InSubnetPinLaw" (some 0) with
  accessFlags := 49
  interfaces := #[]
  cf := some (fileOf pool1 16 #[] #[{ accessFlags := 2, nameIndex := 5, descriptorIndex := 6, attributes := #[] }, { accessFlags := 9, nameIndex := 20, descriptorIndex := 21, attributes := #[] }] 49 2 #[] #[])
  fields := #[]
  methods := #[k1m0, k1m1]
  instanceTypes := #[]
  staticTypes := #[]
  resolved := Array.replicate 25 none
  statics := none }

def pool2 : Array CpInfo := pool [(2, .class_ 4), (1, u "java/lang/Object"), (0, u "<init>"), (0, u "()V"), (27, .class_ 36), (1, u "com/example/lean_lease/leanlease/wire/Ipv4"), (21, u "(II)I"), (0, .methodref 34 60), (0, .nameAndType 61 58), (0, u "network"), (23, u "(III)Z"), (2, u "inSubnet")] 2

def k2m0 : Method := { name := "<init>", desc := "()V", sig := { parameters := [], returnType := none }, accessFlags := 2, code := none }
def k2c1 : Code := { maxStack := 2, maxLocals := 2, code := prog_41_method_7_code, exceptionTable := #[], attributes := #[] }
def k2m1 : Method := { name := "network", desc := "(II)I", sig := { parameters := [.int, .int], returnType := some .int }, accessFlags := 9, code := some k2c1 }
def k2c2 : Code := { maxStack := 3, maxLocals := 3, code := prog_41_method_9_code, exceptionTable := #[], attributes := #[] }
def k2m2 : Method := { name := "inSubnet", desc := "(III)Z", sig := { parameters := [.int, .int, .int], returnType := some .boolean }, accessFlags := 9, code := some k2c2 }
/-- com/example/lean_lease/leanlease/wire/Ipv4 -/
def k2 : Class := { plain "com/example/lean_lease/leanlease/wire/Ipv4" (some 0) with
  accessFlags := 49
  interfaces := #[]
  cf := some (fileOf pool2 34 #[] #[{ accessFlags := 2, nameIndex := 5, descriptorIndex := 6, attributes := #[] }, { accessFlags := 9, nameIndex := 61, descriptorIndex := 58, attributes := #[] }, { accessFlags := 9, nameIndex := 88, descriptorIndex := 85, attributes := #[] }] 49 2 #[] #[])
  fields := #[]
  methods := #[k2m0, k2m1, k2m2]
  instanceTypes := #[]
  staticTypes := #[]
  resolved := Array.replicate 91 none
  statics := none }

def pool3 : Array CpInfo := pool [(1, u "java/lang/Cloneable"), (0, .class_ 1), (0, u "java/lang/Object"), (0, .class_ 3)] 3

/-- java/lang/Cloneable -/
def k3 : Class := { plain "java/lang/Cloneable" (some 0) with
  accessFlags := 1537
  interfaces := #[]
  cf := some (fileOf pool3 2 #[] #[] 1537 4 #[] #[])
  fields := #[]
  methods := #[]
  instanceTypes := #[]
  staticTypes := #[]
  resolved := Array.replicate 8 none
  statics := none }

def pool4 : Array CpInfo := pool [(1, u "java/io/Serializable"), (0, .class_ 1), (0, u "java/lang/Object"), (0, .class_ 3)] 3

/-- java/io/Serializable -/
def k4 : Class := { plain "java/io/Serializable" (some 0) with
  accessFlags := 1537
  interfaces := #[]
  cf := some (fileOf pool4 2 #[] #[] 1537 4 #[] #[])
  fields := #[]
  methods := #[]
  instanceTypes := #[]
  staticTypes := #[]
  resolved := Array.replicate 8 none
  statics := none }

/-- the primitive byte -/
def k5 : Class := { plain "byte" none with kind := .primitive 'B', accessFlags := 0x411 }
/-- [B -/
def k6 : Class := { plain "[B" (some 0) with kind := .array 5 .byte, interfaces := #[3, 4], accessFlags := 1041 }

/-- the primitive int -/
def k7 : Class := { plain "int" none with kind := .primitive 'I', accessFlags := 0x411 }
/-- [I -/
def k8 : Class := { plain "[I" (some 0) with kind := .array 7 .int, interfaces := #[3, 4], accessFlags := 1041 }

def heap : Heap := #[]
def classes : Array Class := #[k0, k1, k2, k3, k4, k5, k6, k7, k8]
def interned : List (Array UInt16 × Addr) := []
def slotsUsed : Nat := 0
def theMethod : MethodId := ⟨1, 1⟩
def args0 : Array Value := #[.int 5, .int 7, .int 3, .int 9]
def aboutOver (below : List Frame) : State where
  vm := { classes := classes, interned := interned.toArray }
  heap := heap
  slotsUsed := slotsUsed
  threads := #[{ frames := .invoking theMethod args0 :: below }]
def below0 : List Frame := [.native { method := ⟨0, 0⟩, args := #[] }]
def about1 : State := aboutOver below0
def p0 : Program := .bare "" "" ""
def e0 : Env := launch0.env 0 0 0
theorem w_frames : about1.frames = Frame.invoking theMethod args0 :: below0 := rfl
set_option maxRecDepth 65536 in
theorem w_args : argsFit about1.vm theMethod args0 = true := by decide +kernel
set_option maxRecDepth 65536 in
theorem w_heap : heapFits about1 = true := by decide +kernel
set_option maxRecDepth 65536 in
theorem w_runnable : about1.curStatus? = some .runnable := by decide +kernel
set_option maxRecDepth 65536 in
theorem w_alone : about1.alone = true := by decide +kernel
set_option maxRecDepth 65536 in
theorem w_named : about1.methodNamed? x = some theMethod := by decide +kernel
set_option maxRecDepth 65536 in
theorem w_hears : about1.hears theMethod below0 = true := by decide +kernel
set_option maxRecDepth 65536 in
theorem w_ripe : about1.ripe theMethod args0 below0 = true := by decide +kernel
theorem w_running : about1.status = .running := rfl
set_option maxRecDepth 65536 in
theorem w_room : about1.hasRoom e0.platform room_1 = true :=
  launch0.hasRoom_least _ room_1 (by decide +kernel) (by decide +kernel) (by decide +kernel) (by decide +kernel) (by decide +kernel) (by decide +kernel)
theorem allAtoms_all (ts : List Jvm.Cond) (a : Array Jvm.Value) (st : Jvm.State) : (allAtoms ts).before a st = ts.all (fun c => c.before a st) := by
  induction ts with
  | nil => rfl
  | cons c t ih =>
    show (Jvm.Cond.and c (allAtoms t)).before a st = _
    rw [Jvm.Cond.before_and, ih, List.all_cons]
def words1 : List Jvm.Cond := Jvm.Cond.code x code maxLocals ret :: tables_1
/-- a 'code' word, met by the world's own term for the bytes: nothing is compared byte by byte -/
theorem code_word {y : MethodName} {bytes : ByteArray} {mx : Nat} {rt : Option FieldType} {a : Array Value} {s : State} {m : MethodId} {meth : Method} {c : Code} (h1 : s.methodNamed? y = some m) (h2 : s.vm.method? m = some meth) (h3 : meth.code = some c) (h4 : c.code = bytes)
    (h5 : (c.maxLocals == mx && c.exceptionTable.isEmpty && decide (c.maxStack ≤ mostOperands) && decide (meth.sig.returnType = rt) && !meth.locks && decide (parseMethodDescriptor y.desc = some meth.sig)) = true) : (Jvm.Cond.code y bytes mx rt).before a s = true := by
  simp only [Bool.and_eq_true, beq_iff_eq, Bool.not_eq_true', decide_eq_true_eq] at h5
  obtain ⟨⟨⟨⟨⟨g1, g2⟩, g3⟩, g4⟩, g5⟩, g6⟩ := h5
  simp [Cond.before, Cond.holds, Cond.value, h1, h2, h3, h4, g1, g2, g3, g4, g5, g6]
def isCode : Jvm.Cond → Bool
  | .code _ _ _ _ => true
  | _ => false
theorem all_split {L : List Jvm.Cond} {P : Jvm.Cond → Bool} (h1 : L.all (fun c => isCode c || P c) = true) (h2 : ∀ c ∈ L.filter isCode, P c = true) : L.all P = true := by
  refine List.all_eq_true.mpr fun c hc => ?_
  have h := List.all_eq_true.mp h1 c hc
  rcases Bool.eq_false_or_eq_true (isCode c) with hi | hi
  · exact h2 c (List.mem_filter.mpr ⟨hc, hi⟩)
  · simpa [hi] using h
set_option maxRecDepth 65536 in
theorem w_c0 : (Jvm.Cond.code x code maxLocals ret).before args0 about1 = true := code_word (m := ⟨1, 1⟩) (meth := k1m1) (c := k1c1) (by decide +kernel) rfl rfl rfl (by decide +kernel)
set_option maxRecDepth 65536 in
theorem w_c1 : (Jvm.Cond.code ({ cls := "com/example/lean_lease/leanlease/wire/Ipv4", name := "inSubnet", desc := "(III)Z" } : Jvm.MethodName) prog_41_method_9_code (3 : Nat) (Option.some Jvm.ClassFile.FieldType.boolean)).before args0 about1 = true := code_word (m := ⟨2, 2⟩) (meth := k2m2) (c := k2c2) (by decide +kernel) rfl rfl rfl (by decide +kernel)
set_option maxRecDepth 65536 in
theorem w_c2 : (Jvm.Cond.code ({ cls := "com/example/lean_lease/leanlease/wire/Ipv4", name := "network", desc := "(II)I" } : Jvm.MethodName) prog_41_method_7_code (2 : Nat) (Option.some Jvm.ClassFile.FieldType.int)).before args0 about1 = true := code_word (m := ⟨2, 1⟩) (meth := k2m1) (c := k2c1) (by decide +kernel) rfl rfl rfl (by decide +kernel)
def codes1 : List Jvm.Cond := [Jvm.Cond.code x code maxLocals ret, Jvm.Cond.code ({ cls := "com/example/lean_lease/leanlease/wire/Ipv4", name := "inSubnet", desc := "(III)Z" } : Jvm.MethodName) prog_41_method_9_code (3 : Nat) (Option.some Jvm.ClassFile.FieldType.boolean), Jvm.Cond.code ({ cls := "com/example/lean_lease/leanlease/wire/Ipv4", name := "network", desc := "(II)I" } : Jvm.MethodName) prog_41_method_7_code (2 : Nat) (Option.some Jvm.ClassFile.FieldType.int)]
set_option maxRecDepth 65536 in
theorem codes_eq : words1.filter isCode = codes1 := rfl
theorem w_codes : ∀ c ∈ words1.filter isCode, c.before args0 about1 = true := by
  rw [codes_eq]
  intro c hc
  simp only [codes1, List.mem_cons, List.not_mem_nil, or_false] at hc
  rcases hc with rfl | rfl | rfl
  · exact w_c0
  · exact w_c1
  · exact w_c2
set_option maxRecDepth 65536 in
theorem w_t1 : words1.all (fun c => isCode c || c.before args0 about1) = true := by decide +kernel
theorem w_tables : (allAtoms (Jvm.Cond.code x code maxLocals ret :: tables_1)).before args0 about1 = true := by
  rw [allAtoms_all]
  show words1.all (fun c => c.before args0 about1) = true
  refine all_split ?_ w_codes
  rw [w_t1]
set_option maxRecDepth 65536 in
theorem w_case : (Jvm.Cond.and given_1 narrow_1).before args0 about1 = true := by decide +kernel
theorem w_applies : (headSpec (Jvm.Cond.code x code maxLocals ret :: tables_1) room_1).applies x e0.platform about1 = true :=
  (Spec.applies_iff w_frames).mpr ⟨w_running, w_runnable, w_alone, w_named, w_hears, w_ripe, w_room, w_tables⟩
theorem atStart : AtStart classFile x code maxLocals ret World_1 tables_1 room_1 Calls_1 rest_1 Pre_1 launch0 p0 e0 about1 theMethod args0 below0 :=
  ⟨lists_1, trivial, launch0.admits_env _ _ _, launch0.least_env, fairChoices_fair.cas, fairChoices_fair.clock, w_frames, w_args, w_heap, w_applies, trivial, trivial, w_case⟩
end start1
theorem witness_1 : WitnessClaimed_1 := ⟨start1.p0, start1.e0, start1.about1, start1.theMethod, start1.args0, start1.below0, start1.atStart⟩
end Jvm.Pilot.@@N@@
