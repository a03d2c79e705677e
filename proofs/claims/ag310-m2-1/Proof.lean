import JvmDerived
import JvmDerived.Pilot.@@N@@Statement
import JvmDerived.Pilot.@@N@@Code
set_option linter.unusedVariables false
set_option linter.unusedSimpArgs false
namespace Jvm.RoadKit
open Sem ClassFile Op Lib Jvm.Stand Jvm.Free Jvm.LawKit
section New
variable {p : Program} {l : Launch} {e : Env} {R : Room} {s : State} {m : MethodId} {args : Array Value} {below : List Frame} {meth : Method} {c : Code} {T : State} {locs : List Loc} {cells slots : Nat}
theorem retI (X : Stand p l e R s m args below meth c T locs cells slots) (hx : p.tables.exec = Jvm.exec) {pc : Nat} {Ls : Array Slot} {z : Int32} {rest : List Value} (hret : meth.sig.returnType = some .int) (hd : decode c.code pc = .ok (.ireturn, 1)) {fs : List Frame}
    (hl : ∀ (f : JFrame) (acts : List Action), f.method = m → f.locked = none → f.entered = [] → (doReturn e (T.setTop f) acts (some (.int z))).1 = T.setFrames fs) : Steps p.tables e below (T.setTop (mkF m pc Ls (.int z :: rest))) (T.setFrames fs) := by
  have hm' : T.vm.method? m = some meth := X.method'
  have hn : narrow .int (.int z) = .int z := rfl
  show Steps p.tables e below (T.setTop { method := m, pc := pc, locals := Ls, stack := _ :: rest, locked := none }) _
  jvm_step X.here [X.here.top, hx, hd, hm', hret, hn]
  first | (intro acts; rw [hl _ acts rfl rfl rfl]) | rw [hl _ _ rfl rfl rfl]
  exact Steps.refl _
/-- from here the invocation comes to an end of which R holds -/
def Goes (p : Program) (e : Env) (below : List Frame) (cur : State) (R : State → Outcome → Prop) : Prop := ∃ s₂ o, Steps p.tables e below cur s₂ ∧ s₂.status = .running ∧ Ended s₂ below o ∧ R s₂ o
theorem Goes.via {cur next : State} {R : State → Outcome → Prop} (k : ∀ t, Steps p.tables e below next t → Steps p.tables e below cur t) (h : Goes p e below next R) : Goes p e below cur R := by
  obtain ⟨s₂, o, h1, h2⟩ := h
  exact ⟨s₂, o, k _ h1, h2⟩
end New
end Jvm.RoadKit
namespace Jvm.Pilot.@@N@@
open Jvm Jvm.ClassFile Sem Op Lib Jvm.Free Jvm.Stand Jvm.LawKit Jvm.RoadKit Bundle Jvm.Pilot.@@N@@.Jvm.D
theorem d3_0 : decode jdk_29_method_45_code 0 = .ok (.lload_n 0, 1) := by decide +kernel
theorem d3_1 : decode jdk_29_method_45_code 1 = .ok (.bipush 32, 2) := by decide +kernel
theorem d3_3 : decode jdk_29_method_45_code 3 = .ok (.lshr, 1) := by decide +kernel
theorem d3_4 : decode jdk_29_method_45_code 4 = .ok (.lstore 4, 2) := by decide +kernel
theorem d3_6 : decode jdk_29_method_45_code 6 = .ok (.lload_n 0, 1) := by decide +kernel
theorem d3_7 : decode jdk_29_method_45_code 7 = .ok (.ldc2_w 138, 3) := by decide +kernel
theorem d3_10 : decode jdk_29_method_45_code 10 = .ok (.land, 1) := by decide +kernel
theorem d3_11 : decode jdk_29_method_45_code 11 = .ok (.lstore 6, 2) := by decide +kernel
theorem d3_13 : decode jdk_29_method_45_code 13 = .ok (.lload_n 2, 1) := by decide +kernel
theorem d3_14 : decode jdk_29_method_45_code 14 = .ok (.bipush 32, 2) := by decide +kernel
theorem d3_16 : decode jdk_29_method_45_code 16 = .ok (.lshr, 1) := by decide +kernel
theorem d3_17 : decode jdk_29_method_45_code 17 = .ok (.lstore 8, 2) := by decide +kernel
theorem d3_19 : decode jdk_29_method_45_code 19 = .ok (.lload_n 2, 1) := by decide +kernel
theorem d3_20 : decode jdk_29_method_45_code 20 = .ok (.ldc2_w 138, 3) := by decide +kernel
theorem d3_23 : decode jdk_29_method_45_code 23 = .ok (.land, 1) := by decide +kernel
theorem d3_24 : decode jdk_29_method_45_code 24 = .ok (.lstore 10, 2) := by decide +kernel
theorem d3_26 : decode jdk_29_method_45_code 26 = .ok (.lload 6, 2) := by decide +kernel
theorem d3_28 : decode jdk_29_method_45_code 28 = .ok (.lload 10, 2) := by decide +kernel
theorem d3_30 : decode jdk_29_method_45_code 30 = .ok (.lmul, 1) := by decide +kernel
theorem d3_31 : decode jdk_29_method_45_code 31 = .ok (.lstore 12, 2) := by decide +kernel
theorem d3_33 : decode jdk_29_method_45_code 33 = .ok (.lload 4, 2) := by decide +kernel
theorem d3_35 : decode jdk_29_method_45_code 35 = .ok (.lload 10, 2) := by decide +kernel
theorem d3_37 : decode jdk_29_method_45_code 37 = .ok (.lmul, 1) := by decide +kernel
theorem d3_38 : decode jdk_29_method_45_code 38 = .ok (.lload 12, 2) := by decide +kernel
theorem d3_40 : decode jdk_29_method_45_code 40 = .ok (.bipush 32, 2) := by decide +kernel
theorem d3_42 : decode jdk_29_method_45_code 42 = .ok (.lushr, 1) := by decide +kernel
theorem d3_43 : decode jdk_29_method_45_code 43 = .ok (.ladd, 1) := by decide +kernel
theorem d3_44 : decode jdk_29_method_45_code 44 = .ok (.lstore 14, 2) := by decide +kernel
theorem d3_46 : decode jdk_29_method_45_code 46 = .ok (.lload 14, 2) := by decide +kernel
theorem d3_48 : decode jdk_29_method_45_code 48 = .ok (.ldc2_w 138, 3) := by decide +kernel
theorem d3_51 : decode jdk_29_method_45_code 51 = .ok (.land, 1) := by decide +kernel
theorem d3_52 : decode jdk_29_method_45_code 52 = .ok (.lstore 16, 2) := by decide +kernel
theorem d3_54 : decode jdk_29_method_45_code 54 = .ok (.lload 14, 2) := by decide +kernel
theorem d3_56 : decode jdk_29_method_45_code 56 = .ok (.bipush 32, 2) := by decide +kernel
theorem d3_58 : decode jdk_29_method_45_code 58 = .ok (.lshr, 1) := by decide +kernel
theorem d3_59 : decode jdk_29_method_45_code 59 = .ok (.lstore 18, 2) := by decide +kernel
theorem d3_61 : decode jdk_29_method_45_code 61 = .ok (.lload 16, 2) := by decide +kernel
theorem d3_63 : decode jdk_29_method_45_code 63 = .ok (.lload 6, 2) := by decide +kernel
theorem d3_65 : decode jdk_29_method_45_code 65 = .ok (.lload 8, 2) := by decide +kernel
theorem d3_67 : decode jdk_29_method_45_code 67 = .ok (.lmul, 1) := by decide +kernel
theorem d3_68 : decode jdk_29_method_45_code 68 = .ok (.ladd, 1) := by decide +kernel
theorem d3_69 : decode jdk_29_method_45_code 69 = .ok (.lstore 16, 2) := by decide +kernel
theorem d3_71 : decode jdk_29_method_45_code 71 = .ok (.lload 4, 2) := by decide +kernel
theorem d3_73 : decode jdk_29_method_45_code 73 = .ok (.lload 8, 2) := by decide +kernel
theorem d3_75 : decode jdk_29_method_45_code 75 = .ok (.lmul, 1) := by decide +kernel
theorem d3_76 : decode jdk_29_method_45_code 76 = .ok (.lload 18, 2) := by decide +kernel
theorem d3_78 : decode jdk_29_method_45_code 78 = .ok (.ladd, 1) := by decide +kernel
theorem d3_79 : decode jdk_29_method_45_code 79 = .ok (.lload 16, 2) := by decide +kernel
theorem d3_81 : decode jdk_29_method_45_code 81 = .ok (.bipush 32, 2) := by decide +kernel
theorem d3_83 : decode jdk_29_method_45_code 83 = .ok (.lshr, 1) := by decide +kernel
theorem d3_84 : decode jdk_29_method_45_code 84 = .ok (.ladd, 1) := by decide +kernel
theorem d3_85 : decode jdk_29_method_45_code 85 = .ok (.lreturn, 1) := by decide +kernel
theorem ef_3 (m : MethodId) (x0 : Int64) (x1 : Int64) : entryFrame m #[(.long x0), (.long x1)] 20 = mkF m 0 #[.val (.long x0), .second, .val (.long x1), .second, .unset, .unset, .unset, .unset, .unset, .unset, .unset, .unset, .unset, .unset, .unset, .unset, .unset, .unset, .unset, .unset] [] := by first | (simp [entryFrame, mkF, argsToLocals, Value.category]; done) | rfl
def v3_31_0 (q1 : Int64) (q2 : Int64) : Int64 := ((q1 &&& (4294967295 : Int64)) * (q2 &&& (4294967295 : Int64)))
def v3_44_1 (q1 : Int64) (q2 : Int64) : Int64 := (((q1 >>> ((32 : Int32) &&& 0x3f).toInt64) * (q2 &&& (4294967295 : Int64))) + (((v3_31_0 q1 q2).toUInt64 >>> ((32 : Int32) &&& 0x3f).toInt64.toUInt64).toInt64))
def v3_59_2 (q1 : Int64) (q2 : Int64) : Int64 := ((v3_44_1 q1 q2) >>> ((32 : Int32) &&& 0x3f).toInt64)
def v3_69_3 (q1 : Int64) (q2 : Int64) : Int64 := (((v3_44_1 q1 q2) &&& (4294967295 : Int64)) + ((q1 &&& (4294967295 : Int64)) * (q2 >>> ((32 : Int32) &&& 0x3f).toInt64)))
def f3 (q1 : Int64) (q2 : Int64) : Int64 :=
  ((((q1 >>> ((32 : Int32) &&& 0x3f).toInt64) * (q2 >>> ((32 : Int32) &&& 0x3f).toInt64)) + (v3_59_2 q1 q2)) + ((v3_69_3 q1 q2) >>> ((32 : Int32) &&& 0x3f).toInt64))
def Q3 (Z : State) (q1 : Int64) (q2 : Int64) (h0 : Heap) (n0 : Nat) (v : Option Value) (h : Heap) (L : List Loc) : Prop := v = some (.long (f3 q1 q2)) ∧ Fr n0 L ∧ h = h0
set_option maxRecDepth 65536 in
set_option maxHeartbeats 40000000 in
theorem rm3 (l : Launch) (Z : State) (a0 : Array Value) (hw : ∀ d ∈ tables_1, d.before a0 Z = true) (ws : List Jvm.Cond) (q1 : Int64) (q2 : Int64) (h0 : Heap) (n0 : Nat) (Z0 : n0 ≤ h0.size) :
    MetFree l (⟨"java/lang/Math", "multiplyHigh", "(JJ)J"⟩ : MethodName) (head1 (Jvm.Cond.code (⟨"java/lang/Math", "multiplyHigh", "(JJ)J"⟩ : MethodName) jdk_29_method_45_code 20 (some .long) :: ws) ({ frames := 0, cells := 0, slots := 0, locals := 0 } : Room)) (fun a U => a = #[(.long q1), (.long q2)] ∧ Z.Warmed39 U.vm ∧ U.heap = h0) (fun _ _ _ _ _ => True) (fun _ U o U' => ∃ v L, o = .returned v ∧ Q3 Z q1 q2 h0 n0 v U'.heap L ∧ FrameEnd U o U' L ({ frames := 0, cells := 0, slots := 0, locals := 0 } : Room).cells ({ frames := 0, cells := 0, slots := 0, locals := 0 } : Room).slots) := by
  refine MetFree.of_bodySF (Jvm.Free.JP.mathPlain rfl (by decide +kernel)) hisR ?_
  intro p e s m args below meth c s₁ Bd hml0 hP hK
  obtain ⟨rfl, hZ, hh⟩ := hP
  have hx := Bd.exec
  have hby := Bd.bytes
  have hml : c.maxLocals = 20 := hml0
  have hown : s.vm.findClass "java/lang/Math" = some m.cls := findClass_of_methodNamed Bd.named
  have hnm := (name_of_methodNamed Bd.named Bd.method).1
  have X0 : Stand p l e ({ frames := 0, cells := 0, slots := 0, locals := 0 } : Room) s m #[(.long q1), (.long q2)] below meth c s₁ [] 0 0 := Stand.of_body Bd
  have e0 : s₁.heap = h0 := by rw [← hh, Bd.state]; rfl
  have N0 := Fr.nil n0
  refine Goes.via (next := s₁.setTop (mkF m 0 #[.val (.long q1), .second, .val (.long q2), .second, .unset, .unset, .unset, .unset, .unset, .unset, .unset, .unset, .unset, .unset, .unset, .unset, .unset, .unset, .unset, .unset] [])) (fun t k => castTop (ef_3 m q1 q2) k) ?_
  refine Goes.via (fun t k => XS.lloadN X0.here hx rfl (hb hby d3_0) rfl k) ?_
  show Goes p e below (s₁.setTop (mkF m 1 #[.val (.long q1), .second, .val (.long q2), .second, .unset, .unset, .unset, .unset, .unset, .unset, .unset, .unset, .unset, .unset, .unset, .unset, .unset, .unset, .unset, .unset] [(.long q1)])) _
  refine Goes.via (fun t k => XS.bipush X0.here hx rfl (hb hby d3_1) k) ?_
  show Goes p e below (s₁.setTop (mkF m 3 #[.val (.long q1), .second, .val (.long q2), .second, .unset, .unset, .unset, .unset, .unset, .unset, .unset, .unset, .unset, .unset, .unset, .unset, .unset, .unset, .unset, .unset] [(.int (32 : Int32)), (.long q1)])) _
  refine Goes.via (fun t k => XS.lshr X0.here hx rfl (hb hby d3_3) rfl k) ?_
  show Goes p e below (s₁.setTop (mkF m 4 #[.val (.long q1), .second, .val (.long q2), .second, .unset, .unset, .unset, .unset, .unset, .unset, .unset, .unset, .unset, .unset, .unset, .unset, .unset, .unset, .unset, .unset] [(.long (q1 >>> ((32 : Int32) &&& 0x3f).toInt64))])) _
  refine Goes.via (fun t k => XS.lstore X0.here hx rfl (hb hby d3_4) rfl (l' := #[.val (.long q1), .second, .val (.long q2), .second, .val (.long (q1 >>> ((32 : Int32) &&& 0x3f).toInt64)), .second, .unset, .unset, .unset, .unset, .unset, .unset, .unset, .unset, .unset, .unset, .unset, .unset, .unset, .unset]) rfl k) ?_
  show Goes p e below (s₁.setTop (mkF m 6 #[.val (.long q1), .second, .val (.long q2), .second, .val (.long (q1 >>> ((32 : Int32) &&& 0x3f).toInt64)), .second, .unset, .unset, .unset, .unset, .unset, .unset, .unset, .unset, .unset, .unset, .unset, .unset, .unset, .unset] [])) _
  refine Goes.via (fun t k => XS.lloadN X0.here hx rfl (hb hby d3_6) rfl k) ?_
  show Goes p e below (s₁.setTop (mkF m 7 #[.val (.long q1), .second, .val (.long q2), .second, .val (.long (q1 >>> ((32 : Int32) &&& 0x3f).toInt64)), .second, .unset, .unset, .unset, .unset, .unset, .unset, .unset, .unset, .unset, .unset, .unset, .unset, .unset, .unset] [(.long q1)])) _
  refine Goes.via (fun t k => X0.ldc2Long hx hown (mvT hZ (hw _ (List.mem_of_getElem? (i := 13) rfl))) (g := (mkF m 7 #[.val (.long q1), .second, .val (.long q2), .second, .val (.long (q1 >>> ((32 : Int32) &&& 0x3f).toInt64)), .second, .unset, .unset, .unset, .unset, .unset, .unset, .unset, .unset, .unset, .unset, .unset, .unset, .unset, .unset] [(.long q1)])) rfl (hb hby d3_7) _ k) ?_
  show Goes p e below (s₁.setTop (mkF m 10 #[.val (.long q1), .second, .val (.long q2), .second, .val (.long (q1 >>> ((32 : Int32) &&& 0x3f).toInt64)), .second, .unset, .unset, .unset, .unset, .unset, .unset, .unset, .unset, .unset, .unset, .unset, .unset, .unset, .unset] [(.long (4294967295 : Int64)), (.long q1)])) _
  refine Goes.via (fun t k => XS.land X0.here hx rfl (hb hby d3_10) rfl k) ?_
  show Goes p e below (s₁.setTop (mkF m 11 #[.val (.long q1), .second, .val (.long q2), .second, .val (.long (q1 >>> ((32 : Int32) &&& 0x3f).toInt64)), .second, .unset, .unset, .unset, .unset, .unset, .unset, .unset, .unset, .unset, .unset, .unset, .unset, .unset, .unset] [(.long (q1 &&& (4294967295 : Int64)))])) _
  refine Goes.via (fun t k => XS.lstore X0.here hx rfl (hb hby d3_11) rfl (l' := #[.val (.long q1), .second, .val (.long q2), .second, .val (.long (q1 >>> ((32 : Int32) &&& 0x3f).toInt64)), .second, .val (.long (q1 &&& (4294967295 : Int64))), .second, .unset, .unset, .unset, .unset, .unset, .unset, .unset, .unset, .unset, .unset, .unset, .unset]) rfl k) ?_
  show Goes p e below (s₁.setTop (mkF m 13 #[.val (.long q1), .second, .val (.long q2), .second, .val (.long (q1 >>> ((32 : Int32) &&& 0x3f).toInt64)), .second, .val (.long (q1 &&& (4294967295 : Int64))), .second, .unset, .unset, .unset, .unset, .unset, .unset, .unset, .unset, .unset, .unset, .unset, .unset] [])) _
  refine Goes.via (fun t k => XS.lloadN X0.here hx rfl (hb hby d3_13) rfl k) ?_
  show Goes p e below (s₁.setTop (mkF m 14 #[.val (.long q1), .second, .val (.long q2), .second, .val (.long (q1 >>> ((32 : Int32) &&& 0x3f).toInt64)), .second, .val (.long (q1 &&& (4294967295 : Int64))), .second, .unset, .unset, .unset, .unset, .unset, .unset, .unset, .unset, .unset, .unset, .unset, .unset] [(.long q2)])) _
  refine Goes.via (fun t k => XS.bipush X0.here hx rfl (hb hby d3_14) k) ?_
  show Goes p e below (s₁.setTop (mkF m 16 #[.val (.long q1), .second, .val (.long q2), .second, .val (.long (q1 >>> ((32 : Int32) &&& 0x3f).toInt64)), .second, .val (.long (q1 &&& (4294967295 : Int64))), .second, .unset, .unset, .unset, .unset, .unset, .unset, .unset, .unset, .unset, .unset, .unset, .unset] [(.int (32 : Int32)), (.long q2)])) _
  refine Goes.via (fun t k => XS.lshr X0.here hx rfl (hb hby d3_16) rfl k) ?_
  show Goes p e below (s₁.setTop (mkF m 17 #[.val (.long q1), .second, .val (.long q2), .second, .val (.long (q1 >>> ((32 : Int32) &&& 0x3f).toInt64)), .second, .val (.long (q1 &&& (4294967295 : Int64))), .second, .unset, .unset, .unset, .unset, .unset, .unset, .unset, .unset, .unset, .unset, .unset, .unset] [(.long (q2 >>> ((32 : Int32) &&& 0x3f).toInt64))])) _
  refine Goes.via (fun t k => XS.lstore X0.here hx rfl (hb hby d3_17) rfl (l' := #[.val (.long q1), .second, .val (.long q2), .second, .val (.long (q1 >>> ((32 : Int32) &&& 0x3f).toInt64)), .second, .val (.long (q1 &&& (4294967295 : Int64))), .second, .val (.long (q2 >>> ((32 : Int32) &&& 0x3f).toInt64)), .second, .unset, .unset, .unset, .unset, .unset, .unset, .unset, .unset, .unset, .unset]) rfl k) ?_
  show Goes p e below (s₁.setTop (mkF m 19 #[.val (.long q1), .second, .val (.long q2), .second, .val (.long (q1 >>> ((32 : Int32) &&& 0x3f).toInt64)), .second, .val (.long (q1 &&& (4294967295 : Int64))), .second, .val (.long (q2 >>> ((32 : Int32) &&& 0x3f).toInt64)), .second, .unset, .unset, .unset, .unset, .unset, .unset, .unset, .unset, .unset, .unset] [])) _
  refine Goes.via (fun t k => XS.lloadN X0.here hx rfl (hb hby d3_19) rfl k) ?_
  show Goes p e below (s₁.setTop (mkF m 20 #[.val (.long q1), .second, .val (.long q2), .second, .val (.long (q1 >>> ((32 : Int32) &&& 0x3f).toInt64)), .second, .val (.long (q1 &&& (4294967295 : Int64))), .second, .val (.long (q2 >>> ((32 : Int32) &&& 0x3f).toInt64)), .second, .unset, .unset, .unset, .unset, .unset, .unset, .unset, .unset, .unset, .unset] [(.long q2)])) _
  refine Goes.via (fun t k => X0.ldc2Long hx hown (mvT hZ (hw _ (List.mem_of_getElem? (i := 13) rfl))) (g := (mkF m 20 #[.val (.long q1), .second, .val (.long q2), .second, .val (.long (q1 >>> ((32 : Int32) &&& 0x3f).toInt64)), .second, .val (.long (q1 &&& (4294967295 : Int64))), .second, .val (.long (q2 >>> ((32 : Int32) &&& 0x3f).toInt64)), .second, .unset, .unset, .unset, .unset, .unset, .unset, .unset, .unset, .unset, .unset] [(.long q2)])) rfl (hb hby d3_20) _ k) ?_
  show Goes p e below (s₁.setTop (mkF m 23 #[.val (.long q1), .second, .val (.long q2), .second, .val (.long (q1 >>> ((32 : Int32) &&& 0x3f).toInt64)), .second, .val (.long (q1 &&& (4294967295 : Int64))), .second, .val (.long (q2 >>> ((32 : Int32) &&& 0x3f).toInt64)), .second, .unset, .unset, .unset, .unset, .unset, .unset, .unset, .unset, .unset, .unset] [(.long (4294967295 : Int64)), (.long q2)])) _
  refine Goes.via (fun t k => XS.land X0.here hx rfl (hb hby d3_23) rfl k) ?_
  show Goes p e below (s₁.setTop (mkF m 24 #[.val (.long q1), .second, .val (.long q2), .second, .val (.long (q1 >>> ((32 : Int32) &&& 0x3f).toInt64)), .second, .val (.long (q1 &&& (4294967295 : Int64))), .second, .val (.long (q2 >>> ((32 : Int32) &&& 0x3f).toInt64)), .second, .unset, .unset, .unset, .unset, .unset, .unset, .unset, .unset, .unset, .unset] [(.long (q2 &&& (4294967295 : Int64)))])) _
  refine Goes.via (fun t k => XS.lstore X0.here hx rfl (hb hby d3_24) rfl (l' := #[.val (.long q1), .second, .val (.long q2), .second, .val (.long (q1 >>> ((32 : Int32) &&& 0x3f).toInt64)), .second, .val (.long (q1 &&& (4294967295 : Int64))), .second, .val (.long (q2 >>> ((32 : Int32) &&& 0x3f).toInt64)), .second, .val (.long (q2 &&& (4294967295 : Int64))), .second, .unset, .unset, .unset, .unset, .unset, .unset, .unset, .unset]) rfl k) ?_
  show Goes p e below (s₁.setTop (mkF m 26 #[.val (.long q1), .second, .val (.long q2), .second, .val (.long (q1 >>> ((32 : Int32) &&& 0x3f).toInt64)), .second, .val (.long (q1 &&& (4294967295 : Int64))), .second, .val (.long (q2 >>> ((32 : Int32) &&& 0x3f).toInt64)), .second, .val (.long (q2 &&& (4294967295 : Int64))), .second, .unset, .unset, .unset, .unset, .unset, .unset, .unset, .unset] [])) _
  refine Goes.via (fun t k => XS.lload X0.here hx rfl (hb hby d3_26) rfl k) ?_
  show Goes p e below (s₁.setTop (mkF m 28 #[.val (.long q1), .second, .val (.long q2), .second, .val (.long (q1 >>> ((32 : Int32) &&& 0x3f).toInt64)), .second, .val (.long (q1 &&& (4294967295 : Int64))), .second, .val (.long (q2 >>> ((32 : Int32) &&& 0x3f).toInt64)), .second, .val (.long (q2 &&& (4294967295 : Int64))), .second, .unset, .unset, .unset, .unset, .unset, .unset, .unset, .unset] [(.long (q1 &&& (4294967295 : Int64)))])) _
  refine Goes.via (fun t k => XS.lload X0.here hx rfl (hb hby d3_28) rfl k) ?_
  show Goes p e below (s₁.setTop (mkF m 30 #[.val (.long q1), .second, .val (.long q2), .second, .val (.long (q1 >>> ((32 : Int32) &&& 0x3f).toInt64)), .second, .val (.long (q1 &&& (4294967295 : Int64))), .second, .val (.long (q2 >>> ((32 : Int32) &&& 0x3f).toInt64)), .second, .val (.long (q2 &&& (4294967295 : Int64))), .second, .unset, .unset, .unset, .unset, .unset, .unset, .unset, .unset] [(.long (q2 &&& (4294967295 : Int64))), (.long (q1 &&& (4294967295 : Int64)))])) _
  refine Goes.via (fun t k => XS.lmul X0.here hx rfl (hb hby d3_30) rfl k) ?_
  show Goes p e below (s₁.setTop (mkF m 31 #[.val (.long q1), .second, .val (.long q2), .second, .val (.long (q1 >>> ((32 : Int32) &&& 0x3f).toInt64)), .second, .val (.long (q1 &&& (4294967295 : Int64))), .second, .val (.long (q2 >>> ((32 : Int32) &&& 0x3f).toInt64)), .second, .val (.long (q2 &&& (4294967295 : Int64))), .second, .unset, .unset, .unset, .unset, .unset, .unset, .unset, .unset] [(.long ((q1 &&& (4294967295 : Int64)) * (q2 &&& (4294967295 : Int64))))])) _
  refine Goes.via (fun t k => XS.lstore X0.here hx rfl (hb hby d3_31) rfl (l' := #[.val (.long q1), .second, .val (.long q2), .second, .val (.long (q1 >>> ((32 : Int32) &&& 0x3f).toInt64)), .second, .val (.long (q1 &&& (4294967295 : Int64))), .second, .val (.long (q2 >>> ((32 : Int32) &&& 0x3f).toInt64)), .second, .val (.long (q2 &&& (4294967295 : Int64))), .second, .val (.long (v3_31_0 q1 q2)), .second, .unset, .unset, .unset, .unset, .unset, .unset]) rfl k) ?_
  show Goes p e below (s₁.setTop (mkF m 33 #[.val (.long q1), .second, .val (.long q2), .second, .val (.long (q1 >>> ((32 : Int32) &&& 0x3f).toInt64)), .second, .val (.long (q1 &&& (4294967295 : Int64))), .second, .val (.long (q2 >>> ((32 : Int32) &&& 0x3f).toInt64)), .second, .val (.long (q2 &&& (4294967295 : Int64))), .second, .val (.long (v3_31_0 q1 q2)), .second, .unset, .unset, .unset, .unset, .unset, .unset] [])) _
  refine Goes.via (fun t k => XS.lload X0.here hx rfl (hb hby d3_33) rfl k) ?_
  show Goes p e below (s₁.setTop (mkF m 35 #[.val (.long q1), .second, .val (.long q2), .second, .val (.long (q1 >>> ((32 : Int32) &&& 0x3f).toInt64)), .second, .val (.long (q1 &&& (4294967295 : Int64))), .second, .val (.long (q2 >>> ((32 : Int32) &&& 0x3f).toInt64)), .second, .val (.long (q2 &&& (4294967295 : Int64))), .second, .val (.long (v3_31_0 q1 q2)), .second, .unset, .unset, .unset, .unset, .unset, .unset] [(.long (q1 >>> ((32 : Int32) &&& 0x3f).toInt64))])) _
  refine Goes.via (fun t k => XS.lload X0.here hx rfl (hb hby d3_35) rfl k) ?_
  show Goes p e below (s₁.setTop (mkF m 37 #[.val (.long q1), .second, .val (.long q2), .second, .val (.long (q1 >>> ((32 : Int32) &&& 0x3f).toInt64)), .second, .val (.long (q1 &&& (4294967295 : Int64))), .second, .val (.long (q2 >>> ((32 : Int32) &&& 0x3f).toInt64)), .second, .val (.long (q2 &&& (4294967295 : Int64))), .second, .val (.long (v3_31_0 q1 q2)), .second, .unset, .unset, .unset, .unset, .unset, .unset] [(.long (q2 &&& (4294967295 : Int64))), (.long (q1 >>> ((32 : Int32) &&& 0x3f).toInt64))])) _
  refine Goes.via (fun t k => XS.lmul X0.here hx rfl (hb hby d3_37) rfl k) ?_
  show Goes p e below (s₁.setTop (mkF m 38 #[.val (.long q1), .second, .val (.long q2), .second, .val (.long (q1 >>> ((32 : Int32) &&& 0x3f).toInt64)), .second, .val (.long (q1 &&& (4294967295 : Int64))), .second, .val (.long (q2 >>> ((32 : Int32) &&& 0x3f).toInt64)), .second, .val (.long (q2 &&& (4294967295 : Int64))), .second, .val (.long (v3_31_0 q1 q2)), .second, .unset, .unset, .unset, .unset, .unset, .unset] [(.long ((q1 >>> ((32 : Int32) &&& 0x3f).toInt64) * (q2 &&& (4294967295 : Int64))))])) _
  refine Goes.via (fun t k => XS.lload X0.here hx rfl (hb hby d3_38) rfl k) ?_
  show Goes p e below (s₁.setTop (mkF m 40 #[.val (.long q1), .second, .val (.long q2), .second, .val (.long (q1 >>> ((32 : Int32) &&& 0x3f).toInt64)), .second, .val (.long (q1 &&& (4294967295 : Int64))), .second, .val (.long (q2 >>> ((32 : Int32) &&& 0x3f).toInt64)), .second, .val (.long (q2 &&& (4294967295 : Int64))), .second, .val (.long (v3_31_0 q1 q2)), .second, .unset, .unset, .unset, .unset, .unset, .unset] [(.long (v3_31_0 q1 q2)), (.long ((q1 >>> ((32 : Int32) &&& 0x3f).toInt64) * (q2 &&& (4294967295 : Int64))))])) _
  refine Goes.via (fun t k => XS.bipush X0.here hx rfl (hb hby d3_40) k) ?_
  show Goes p e below (s₁.setTop (mkF m 42 #[.val (.long q1), .second, .val (.long q2), .second, .val (.long (q1 >>> ((32 : Int32) &&& 0x3f).toInt64)), .second, .val (.long (q1 &&& (4294967295 : Int64))), .second, .val (.long (q2 >>> ((32 : Int32) &&& 0x3f).toInt64)), .second, .val (.long (q2 &&& (4294967295 : Int64))), .second, .val (.long (v3_31_0 q1 q2)), .second, .unset, .unset, .unset, .unset, .unset, .unset] [(.int (32 : Int32)), (.long (v3_31_0 q1 q2)), (.long ((q1 >>> ((32 : Int32) &&& 0x3f).toInt64) * (q2 &&& (4294967295 : Int64))))])) _
  refine Goes.via (fun t k => XS.lushr X0.here hx rfl (hb hby d3_42) rfl k) ?_
  show Goes p e below (s₁.setTop (mkF m 43 #[.val (.long q1), .second, .val (.long q2), .second, .val (.long (q1 >>> ((32 : Int32) &&& 0x3f).toInt64)), .second, .val (.long (q1 &&& (4294967295 : Int64))), .second, .val (.long (q2 >>> ((32 : Int32) &&& 0x3f).toInt64)), .second, .val (.long (q2 &&& (4294967295 : Int64))), .second, .val (.long (v3_31_0 q1 q2)), .second, .unset, .unset, .unset, .unset, .unset, .unset] [(.long (((v3_31_0 q1 q2).toUInt64 >>> ((32 : Int32) &&& 0x3f).toInt64.toUInt64).toInt64)), (.long ((q1 >>> ((32 : Int32) &&& 0x3f).toInt64) * (q2 &&& (4294967295 : Int64))))])) _
  refine Goes.via (fun t k => XS.ladd X0.here hx rfl (hb hby d3_43) rfl k) ?_
  show Goes p e below (s₁.setTop (mkF m 44 #[.val (.long q1), .second, .val (.long q2), .second, .val (.long (q1 >>> ((32 : Int32) &&& 0x3f).toInt64)), .second, .val (.long (q1 &&& (4294967295 : Int64))), .second, .val (.long (q2 >>> ((32 : Int32) &&& 0x3f).toInt64)), .second, .val (.long (q2 &&& (4294967295 : Int64))), .second, .val (.long (v3_31_0 q1 q2)), .second, .unset, .unset, .unset, .unset, .unset, .unset] [(.long (((q1 >>> ((32 : Int32) &&& 0x3f).toInt64) * (q2 &&& (4294967295 : Int64))) + (((v3_31_0 q1 q2).toUInt64 >>> ((32 : Int32) &&& 0x3f).toInt64.toUInt64).toInt64)))])) _
  refine Goes.via (fun t k => XS.lstore X0.here hx rfl (hb hby d3_44) rfl (l' := #[.val (.long q1), .second, .val (.long q2), .second, .val (.long (q1 >>> ((32 : Int32) &&& 0x3f).toInt64)), .second, .val (.long (q1 &&& (4294967295 : Int64))), .second, .val (.long (q2 >>> ((32 : Int32) &&& 0x3f).toInt64)), .second, .val (.long (q2 &&& (4294967295 : Int64))), .second, .val (.long (v3_31_0 q1 q2)), .second, .val (.long (v3_44_1 q1 q2)), .second, .unset, .unset, .unset, .unset]) rfl k) ?_
  show Goes p e below (s₁.setTop (mkF m 46 #[.val (.long q1), .second, .val (.long q2), .second, .val (.long (q1 >>> ((32 : Int32) &&& 0x3f).toInt64)), .second, .val (.long (q1 &&& (4294967295 : Int64))), .second, .val (.long (q2 >>> ((32 : Int32) &&& 0x3f).toInt64)), .second, .val (.long (q2 &&& (4294967295 : Int64))), .second, .val (.long (v3_31_0 q1 q2)), .second, .val (.long (v3_44_1 q1 q2)), .second, .unset, .unset, .unset, .unset] [])) _
  refine Goes.via (fun t k => XS.lload X0.here hx rfl (hb hby d3_46) rfl k) ?_
  show Goes p e below (s₁.setTop (mkF m 48 #[.val (.long q1), .second, .val (.long q2), .second, .val (.long (q1 >>> ((32 : Int32) &&& 0x3f).toInt64)), .second, .val (.long (q1 &&& (4294967295 : Int64))), .second, .val (.long (q2 >>> ((32 : Int32) &&& 0x3f).toInt64)), .second, .val (.long (q2 &&& (4294967295 : Int64))), .second, .val (.long (v3_31_0 q1 q2)), .second, .val (.long (v3_44_1 q1 q2)), .second, .unset, .unset, .unset, .unset] [(.long (v3_44_1 q1 q2))])) _
  refine Goes.via (fun t k => X0.ldc2Long hx hown (mvT hZ (hw _ (List.mem_of_getElem? (i := 13) rfl))) (g := (mkF m 48 #[.val (.long q1), .second, .val (.long q2), .second, .val (.long (q1 >>> ((32 : Int32) &&& 0x3f).toInt64)), .second, .val (.long (q1 &&& (4294967295 : Int64))), .second, .val (.long (q2 >>> ((32 : Int32) &&& 0x3f).toInt64)), .second, .val (.long (q2 &&& (4294967295 : Int64))), .second, .val (.long (v3_31_0 q1 q2)), .second, .val (.long (v3_44_1 q1 q2)), .second, .unset, .unset, .unset, .unset] [(.long (v3_44_1 q1 q2))])) rfl (hb hby d3_48) _ k) ?_
  show Goes p e below (s₁.setTop (mkF m 51 #[.val (.long q1), .second, .val (.long q2), .second, .val (.long (q1 >>> ((32 : Int32) &&& 0x3f).toInt64)), .second, .val (.long (q1 &&& (4294967295 : Int64))), .second, .val (.long (q2 >>> ((32 : Int32) &&& 0x3f).toInt64)), .second, .val (.long (q2 &&& (4294967295 : Int64))), .second, .val (.long (v3_31_0 q1 q2)), .second, .val (.long (v3_44_1 q1 q2)), .second, .unset, .unset, .unset, .unset] [(.long (4294967295 : Int64)), (.long (v3_44_1 q1 q2))])) _
  refine Goes.via (fun t k => XS.land X0.here hx rfl (hb hby d3_51) rfl k) ?_
  show Goes p e below (s₁.setTop (mkF m 52 #[.val (.long q1), .second, .val (.long q2), .second, .val (.long (q1 >>> ((32 : Int32) &&& 0x3f).toInt64)), .second, .val (.long (q1 &&& (4294967295 : Int64))), .second, .val (.long (q2 >>> ((32 : Int32) &&& 0x3f).toInt64)), .second, .val (.long (q2 &&& (4294967295 : Int64))), .second, .val (.long (v3_31_0 q1 q2)), .second, .val (.long (v3_44_1 q1 q2)), .second, .unset, .unset, .unset, .unset] [(.long ((v3_44_1 q1 q2) &&& (4294967295 : Int64)))])) _
  refine Goes.via (fun t k => XS.lstore X0.here hx rfl (hb hby d3_52) rfl (l' := #[.val (.long q1), .second, .val (.long q2), .second, .val (.long (q1 >>> ((32 : Int32) &&& 0x3f).toInt64)), .second, .val (.long (q1 &&& (4294967295 : Int64))), .second, .val (.long (q2 >>> ((32 : Int32) &&& 0x3f).toInt64)), .second, .val (.long (q2 &&& (4294967295 : Int64))), .second, .val (.long (v3_31_0 q1 q2)), .second, .val (.long (v3_44_1 q1 q2)), .second, .val (.long ((v3_44_1 q1 q2) &&& (4294967295 : Int64))), .second, .unset, .unset]) rfl k) ?_
  show Goes p e below (s₁.setTop (mkF m 54 #[.val (.long q1), .second, .val (.long q2), .second, .val (.long (q1 >>> ((32 : Int32) &&& 0x3f).toInt64)), .second, .val (.long (q1 &&& (4294967295 : Int64))), .second, .val (.long (q2 >>> ((32 : Int32) &&& 0x3f).toInt64)), .second, .val (.long (q2 &&& (4294967295 : Int64))), .second, .val (.long (v3_31_0 q1 q2)), .second, .val (.long (v3_44_1 q1 q2)), .second, .val (.long ((v3_44_1 q1 q2) &&& (4294967295 : Int64))), .second, .unset, .unset] [])) _
  refine Goes.via (fun t k => XS.lload X0.here hx rfl (hb hby d3_54) rfl k) ?_
  show Goes p e below (s₁.setTop (mkF m 56 #[.val (.long q1), .second, .val (.long q2), .second, .val (.long (q1 >>> ((32 : Int32) &&& 0x3f).toInt64)), .second, .val (.long (q1 &&& (4294967295 : Int64))), .second, .val (.long (q2 >>> ((32 : Int32) &&& 0x3f).toInt64)), .second, .val (.long (q2 &&& (4294967295 : Int64))), .second, .val (.long (v3_31_0 q1 q2)), .second, .val (.long (v3_44_1 q1 q2)), .second, .val (.long ((v3_44_1 q1 q2) &&& (4294967295 : Int64))), .second, .unset, .unset] [(.long (v3_44_1 q1 q2))])) _
  refine Goes.via (fun t k => XS.bipush X0.here hx rfl (hb hby d3_56) k) ?_
  show Goes p e below (s₁.setTop (mkF m 58 #[.val (.long q1), .second, .val (.long q2), .second, .val (.long (q1 >>> ((32 : Int32) &&& 0x3f).toInt64)), .second, .val (.long (q1 &&& (4294967295 : Int64))), .second, .val (.long (q2 >>> ((32 : Int32) &&& 0x3f).toInt64)), .second, .val (.long (q2 &&& (4294967295 : Int64))), .second, .val (.long (v3_31_0 q1 q2)), .second, .val (.long (v3_44_1 q1 q2)), .second, .val (.long ((v3_44_1 q1 q2) &&& (4294967295 : Int64))), .second, .unset, .unset] [(.int (32 : Int32)), (.long (v3_44_1 q1 q2))])) _
  refine Goes.via (fun t k => XS.lshr X0.here hx rfl (hb hby d3_58) rfl k) ?_
  show Goes p e below (s₁.setTop (mkF m 59 #[.val (.long q1), .second, .val (.long q2), .second, .val (.long (q1 >>> ((32 : Int32) &&& 0x3f).toInt64)), .second, .val (.long (q1 &&& (4294967295 : Int64))), .second, .val (.long (q2 >>> ((32 : Int32) &&& 0x3f).toInt64)), .second, .val (.long (q2 &&& (4294967295 : Int64))), .second, .val (.long (v3_31_0 q1 q2)), .second, .val (.long (v3_44_1 q1 q2)), .second, .val (.long ((v3_44_1 q1 q2) &&& (4294967295 : Int64))), .second, .unset, .unset] [(.long ((v3_44_1 q1 q2) >>> ((32 : Int32) &&& 0x3f).toInt64))])) _
  refine Goes.via (fun t k => XS.lstore X0.here hx rfl (hb hby d3_59) rfl (l' := #[.val (.long q1), .second, .val (.long q2), .second, .val (.long (q1 >>> ((32 : Int32) &&& 0x3f).toInt64)), .second, .val (.long (q1 &&& (4294967295 : Int64))), .second, .val (.long (q2 >>> ((32 : Int32) &&& 0x3f).toInt64)), .second, .val (.long (q2 &&& (4294967295 : Int64))), .second, .val (.long (v3_31_0 q1 q2)), .second, .val (.long (v3_44_1 q1 q2)), .second, .val (.long ((v3_44_1 q1 q2) &&& (4294967295 : Int64))), .second, .val (.long (v3_59_2 q1 q2)), .second]) rfl k) ?_
  show Goes p e below (s₁.setTop (mkF m 61 #[.val (.long q1), .second, .val (.long q2), .second, .val (.long (q1 >>> ((32 : Int32) &&& 0x3f).toInt64)), .second, .val (.long (q1 &&& (4294967295 : Int64))), .second, .val (.long (q2 >>> ((32 : Int32) &&& 0x3f).toInt64)), .second, .val (.long (q2 &&& (4294967295 : Int64))), .second, .val (.long (v3_31_0 q1 q2)), .second, .val (.long (v3_44_1 q1 q2)), .second, .val (.long ((v3_44_1 q1 q2) &&& (4294967295 : Int64))), .second, .val (.long (v3_59_2 q1 q2)), .second] [])) _
  refine Goes.via (fun t k => XS.lload X0.here hx rfl (hb hby d3_61) rfl k) ?_
  show Goes p e below (s₁.setTop (mkF m 63 #[.val (.long q1), .second, .val (.long q2), .second, .val (.long (q1 >>> ((32 : Int32) &&& 0x3f).toInt64)), .second, .val (.long (q1 &&& (4294967295 : Int64))), .second, .val (.long (q2 >>> ((32 : Int32) &&& 0x3f).toInt64)), .second, .val (.long (q2 &&& (4294967295 : Int64))), .second, .val (.long (v3_31_0 q1 q2)), .second, .val (.long (v3_44_1 q1 q2)), .second, .val (.long ((v3_44_1 q1 q2) &&& (4294967295 : Int64))), .second, .val (.long (v3_59_2 q1 q2)), .second] [(.long ((v3_44_1 q1 q2) &&& (4294967295 : Int64)))])) _
  refine Goes.via (fun t k => XS.lload X0.here hx rfl (hb hby d3_63) rfl k) ?_
  show Goes p e below (s₁.setTop (mkF m 65 #[.val (.long q1), .second, .val (.long q2), .second, .val (.long (q1 >>> ((32 : Int32) &&& 0x3f).toInt64)), .second, .val (.long (q1 &&& (4294967295 : Int64))), .second, .val (.long (q2 >>> ((32 : Int32) &&& 0x3f).toInt64)), .second, .val (.long (q2 &&& (4294967295 : Int64))), .second, .val (.long (v3_31_0 q1 q2)), .second, .val (.long (v3_44_1 q1 q2)), .second, .val (.long ((v3_44_1 q1 q2) &&& (4294967295 : Int64))), .second, .val (.long (v3_59_2 q1 q2)), .second] [(.long (q1 &&& (4294967295 : Int64))), (.long ((v3_44_1 q1 q2) &&& (4294967295 : Int64)))])) _
  refine Goes.via (fun t k => XS.lload X0.here hx rfl (hb hby d3_65) rfl k) ?_
  show Goes p e below (s₁.setTop (mkF m 67 #[.val (.long q1), .second, .val (.long q2), .second, .val (.long (q1 >>> ((32 : Int32) &&& 0x3f).toInt64)), .second, .val (.long (q1 &&& (4294967295 : Int64))), .second, .val (.long (q2 >>> ((32 : Int32) &&& 0x3f).toInt64)), .second, .val (.long (q2 &&& (4294967295 : Int64))), .second, .val (.long (v3_31_0 q1 q2)), .second, .val (.long (v3_44_1 q1 q2)), .second, .val (.long ((v3_44_1 q1 q2) &&& (4294967295 : Int64))), .second, .val (.long (v3_59_2 q1 q2)), .second] [(.long (q2 >>> ((32 : Int32) &&& 0x3f).toInt64)), (.long (q1 &&& (4294967295 : Int64))), (.long ((v3_44_1 q1 q2) &&& (4294967295 : Int64)))])) _
  refine Goes.via (fun t k => XS.lmul X0.here hx rfl (hb hby d3_67) rfl k) ?_
  show Goes p e below (s₁.setTop (mkF m 68 #[.val (.long q1), .second, .val (.long q2), .second, .val (.long (q1 >>> ((32 : Int32) &&& 0x3f).toInt64)), .second, .val (.long (q1 &&& (4294967295 : Int64))), .second, .val (.long (q2 >>> ((32 : Int32) &&& 0x3f).toInt64)), .second, .val (.long (q2 &&& (4294967295 : Int64))), .second, .val (.long (v3_31_0 q1 q2)), .second, .val (.long (v3_44_1 q1 q2)), .second, .val (.long ((v3_44_1 q1 q2) &&& (4294967295 : Int64))), .second, .val (.long (v3_59_2 q1 q2)), .second] [(.long ((q1 &&& (4294967295 : Int64)) * (q2 >>> ((32 : Int32) &&& 0x3f).toInt64))), (.long ((v3_44_1 q1 q2) &&& (4294967295 : Int64)))])) _
  refine Goes.via (fun t k => XS.ladd X0.here hx rfl (hb hby d3_68) rfl k) ?_
  show Goes p e below (s₁.setTop (mkF m 69 #[.val (.long q1), .second, .val (.long q2), .second, .val (.long (q1 >>> ((32 : Int32) &&& 0x3f).toInt64)), .second, .val (.long (q1 &&& (4294967295 : Int64))), .second, .val (.long (q2 >>> ((32 : Int32) &&& 0x3f).toInt64)), .second, .val (.long (q2 &&& (4294967295 : Int64))), .second, .val (.long (v3_31_0 q1 q2)), .second, .val (.long (v3_44_1 q1 q2)), .second, .val (.long ((v3_44_1 q1 q2) &&& (4294967295 : Int64))), .second, .val (.long (v3_59_2 q1 q2)), .second] [(.long (((v3_44_1 q1 q2) &&& (4294967295 : Int64)) + ((q1 &&& (4294967295 : Int64)) * (q2 >>> ((32 : Int32) &&& 0x3f).toInt64))))])) _
  refine Goes.via (fun t k => XS.lstore X0.here hx rfl (hb hby d3_69) rfl (l' := #[.val (.long q1), .second, .val (.long q2), .second, .val (.long (q1 >>> ((32 : Int32) &&& 0x3f).toInt64)), .second, .val (.long (q1 &&& (4294967295 : Int64))), .second, .val (.long (q2 >>> ((32 : Int32) &&& 0x3f).toInt64)), .second, .val (.long (q2 &&& (4294967295 : Int64))), .second, .val (.long (v3_31_0 q1 q2)), .second, .val (.long (v3_44_1 q1 q2)), .second, .val (.long (v3_69_3 q1 q2)), .second, .val (.long (v3_59_2 q1 q2)), .second]) rfl k) ?_
  show Goes p e below (s₁.setTop (mkF m 71 #[.val (.long q1), .second, .val (.long q2), .second, .val (.long (q1 >>> ((32 : Int32) &&& 0x3f).toInt64)), .second, .val (.long (q1 &&& (4294967295 : Int64))), .second, .val (.long (q2 >>> ((32 : Int32) &&& 0x3f).toInt64)), .second, .val (.long (q2 &&& (4294967295 : Int64))), .second, .val (.long (v3_31_0 q1 q2)), .second, .val (.long (v3_44_1 q1 q2)), .second, .val (.long (v3_69_3 q1 q2)), .second, .val (.long (v3_59_2 q1 q2)), .second] [])) _
  refine Goes.via (fun t k => XS.lload X0.here hx rfl (hb hby d3_71) rfl k) ?_
  show Goes p e below (s₁.setTop (mkF m 73 #[.val (.long q1), .second, .val (.long q2), .second, .val (.long (q1 >>> ((32 : Int32) &&& 0x3f).toInt64)), .second, .val (.long (q1 &&& (4294967295 : Int64))), .second, .val (.long (q2 >>> ((32 : Int32) &&& 0x3f).toInt64)), .second, .val (.long (q2 &&& (4294967295 : Int64))), .second, .val (.long (v3_31_0 q1 q2)), .second, .val (.long (v3_44_1 q1 q2)), .second, .val (.long (v3_69_3 q1 q2)), .second, .val (.long (v3_59_2 q1 q2)), .second] [(.long (q1 >>> ((32 : Int32) &&& 0x3f).toInt64))])) _
  refine Goes.via (fun t k => XS.lload X0.here hx rfl (hb hby d3_73) rfl k) ?_
  show Goes p e below (s₁.setTop (mkF m 75 #[.val (.long q1), .second, .val (.long q2), .second, .val (.long (q1 >>> ((32 : Int32) &&& 0x3f).toInt64)), .second, .val (.long (q1 &&& (4294967295 : Int64))), .second, .val (.long (q2 >>> ((32 : Int32) &&& 0x3f).toInt64)), .second, .val (.long (q2 &&& (4294967295 : Int64))), .second, .val (.long (v3_31_0 q1 q2)), .second, .val (.long (v3_44_1 q1 q2)), .second, .val (.long (v3_69_3 q1 q2)), .second, .val (.long (v3_59_2 q1 q2)), .second] [(.long (q2 >>> ((32 : Int32) &&& 0x3f).toInt64)), (.long (q1 >>> ((32 : Int32) &&& 0x3f).toInt64))])) _
  refine Goes.via (fun t k => XS.lmul X0.here hx rfl (hb hby d3_75) rfl k) ?_
  show Goes p e below (s₁.setTop (mkF m 76 #[.val (.long q1), .second, .val (.long q2), .second, .val (.long (q1 >>> ((32 : Int32) &&& 0x3f).toInt64)), .second, .val (.long (q1 &&& (4294967295 : Int64))), .second, .val (.long (q2 >>> ((32 : Int32) &&& 0x3f).toInt64)), .second, .val (.long (q2 &&& (4294967295 : Int64))), .second, .val (.long (v3_31_0 q1 q2)), .second, .val (.long (v3_44_1 q1 q2)), .second, .val (.long (v3_69_3 q1 q2)), .second, .val (.long (v3_59_2 q1 q2)), .second] [(.long ((q1 >>> ((32 : Int32) &&& 0x3f).toInt64) * (q2 >>> ((32 : Int32) &&& 0x3f).toInt64)))])) _
  refine Goes.via (fun t k => XS.lload X0.here hx rfl (hb hby d3_76) rfl k) ?_
  show Goes p e below (s₁.setTop (mkF m 78 #[.val (.long q1), .second, .val (.long q2), .second, .val (.long (q1 >>> ((32 : Int32) &&& 0x3f).toInt64)), .second, .val (.long (q1 &&& (4294967295 : Int64))), .second, .val (.long (q2 >>> ((32 : Int32) &&& 0x3f).toInt64)), .second, .val (.long (q2 &&& (4294967295 : Int64))), .second, .val (.long (v3_31_0 q1 q2)), .second, .val (.long (v3_44_1 q1 q2)), .second, .val (.long (v3_69_3 q1 q2)), .second, .val (.long (v3_59_2 q1 q2)), .second] [(.long (v3_59_2 q1 q2)), (.long ((q1 >>> ((32 : Int32) &&& 0x3f).toInt64) * (q2 >>> ((32 : Int32) &&& 0x3f).toInt64)))])) _
  refine Goes.via (fun t k => XS.ladd X0.here hx rfl (hb hby d3_78) rfl k) ?_
  show Goes p e below (s₁.setTop (mkF m 79 #[.val (.long q1), .second, .val (.long q2), .second, .val (.long (q1 >>> ((32 : Int32) &&& 0x3f).toInt64)), .second, .val (.long (q1 &&& (4294967295 : Int64))), .second, .val (.long (q2 >>> ((32 : Int32) &&& 0x3f).toInt64)), .second, .val (.long (q2 &&& (4294967295 : Int64))), .second, .val (.long (v3_31_0 q1 q2)), .second, .val (.long (v3_44_1 q1 q2)), .second, .val (.long (v3_69_3 q1 q2)), .second, .val (.long (v3_59_2 q1 q2)), .second] [(.long (((q1 >>> ((32 : Int32) &&& 0x3f).toInt64) * (q2 >>> ((32 : Int32) &&& 0x3f).toInt64)) + (v3_59_2 q1 q2)))])) _
  refine Goes.via (fun t k => XS.lload X0.here hx rfl (hb hby d3_79) rfl k) ?_
  show Goes p e below (s₁.setTop (mkF m 81 #[.val (.long q1), .second, .val (.long q2), .second, .val (.long (q1 >>> ((32 : Int32) &&& 0x3f).toInt64)), .second, .val (.long (q1 &&& (4294967295 : Int64))), .second, .val (.long (q2 >>> ((32 : Int32) &&& 0x3f).toInt64)), .second, .val (.long (q2 &&& (4294967295 : Int64))), .second, .val (.long (v3_31_0 q1 q2)), .second, .val (.long (v3_44_1 q1 q2)), .second, .val (.long (v3_69_3 q1 q2)), .second, .val (.long (v3_59_2 q1 q2)), .second] [(.long (v3_69_3 q1 q2)), (.long (((q1 >>> ((32 : Int32) &&& 0x3f).toInt64) * (q2 >>> ((32 : Int32) &&& 0x3f).toInt64)) + (v3_59_2 q1 q2)))])) _
  refine Goes.via (fun t k => XS.bipush X0.here hx rfl (hb hby d3_81) k) ?_
  show Goes p e below (s₁.setTop (mkF m 83 #[.val (.long q1), .second, .val (.long q2), .second, .val (.long (q1 >>> ((32 : Int32) &&& 0x3f).toInt64)), .second, .val (.long (q1 &&& (4294967295 : Int64))), .second, .val (.long (q2 >>> ((32 : Int32) &&& 0x3f).toInt64)), .second, .val (.long (q2 &&& (4294967295 : Int64))), .second, .val (.long (v3_31_0 q1 q2)), .second, .val (.long (v3_44_1 q1 q2)), .second, .val (.long (v3_69_3 q1 q2)), .second, .val (.long (v3_59_2 q1 q2)), .second] [(.int (32 : Int32)), (.long (v3_69_3 q1 q2)), (.long (((q1 >>> ((32 : Int32) &&& 0x3f).toInt64) * (q2 >>> ((32 : Int32) &&& 0x3f).toInt64)) + (v3_59_2 q1 q2)))])) _
  refine Goes.via (fun t k => XS.lshr X0.here hx rfl (hb hby d3_83) rfl k) ?_
  show Goes p e below (s₁.setTop (mkF m 84 #[.val (.long q1), .second, .val (.long q2), .second, .val (.long (q1 >>> ((32 : Int32) &&& 0x3f).toInt64)), .second, .val (.long (q1 &&& (4294967295 : Int64))), .second, .val (.long (q2 >>> ((32 : Int32) &&& 0x3f).toInt64)), .second, .val (.long (q2 &&& (4294967295 : Int64))), .second, .val (.long (v3_31_0 q1 q2)), .second, .val (.long (v3_44_1 q1 q2)), .second, .val (.long (v3_69_3 q1 q2)), .second, .val (.long (v3_59_2 q1 q2)), .second] [(.long ((v3_69_3 q1 q2) >>> ((32 : Int32) &&& 0x3f).toInt64)), (.long (((q1 >>> ((32 : Int32) &&& 0x3f).toInt64) * (q2 >>> ((32 : Int32) &&& 0x3f).toInt64)) + (v3_59_2 q1 q2)))])) _
  refine Goes.via (fun t k => XS.ladd X0.here hx rfl (hb hby d3_84) rfl k) ?_
  show Goes p e below (s₁.setTop (mkF m 85 #[.val (.long q1), .second, .val (.long q2), .second, .val (.long (q1 >>> ((32 : Int32) &&& 0x3f).toInt64)), .second, .val (.long (q1 &&& (4294967295 : Int64))), .second, .val (.long (q2 >>> ((32 : Int32) &&& 0x3f).toInt64)), .second, .val (.long (q2 &&& (4294967295 : Int64))), .second, .val (.long (v3_31_0 q1 q2)), .second, .val (.long (v3_44_1 q1 q2)), .second, .val (.long (v3_69_3 q1 q2)), .second, .val (.long (v3_59_2 q1 q2)), .second] [(.long ((((q1 >>> ((32 : Int32) &&& 0x3f).toInt64) * (q2 >>> ((32 : Int32) &&& 0x3f).toInt64)) + (v3_59_2 q1 q2)) + ((v3_69_3 q1 q2) >>> ((32 : Int32) &&& 0x3f).toInt64)))])) _
  obtain ⟨fs, hr, hrun, hended, hW, hsame⟩ := X0.leave (v := some (.long ((((q1 >>> ((32 : Int32) &&& 0x3f).toInt64) * (q2 >>> ((32 : Int32) &&& 0x3f).toInt64)) + (v3_59_2 q1 q2)) + ((v3_69_3 q1 q2) >>> ((32 : Int32) &&& 0x3f).toInt64)))) (fun h => by rw [Bd.returns] at h; cases h)
  refine ⟨_, _, ?_, hrun, hended, _, _, rfl, ?_, ⟨_, rfl⟩, hW, hsame.mono (by decide) (by decide)⟩
  · exact X0.lreturnOut hx Bd.returns (hb hby d3_85) hr
  · show Q3 Z q1 q2 h0 n0 _ s₁.heap _
    rw [e0]
    exact ⟨congrArg some (congrArg _ rfl), N0, rfl⟩
theorem d2_0 : decode prog_9_method_4_code 0 = .ok (.lload_n 0, 1) := by decide +kernel
theorem d2_1 : decode prog_9_method_4_code 1 = .ok (.lload_n 2, 1) := by decide +kernel
theorem d2_2 : decode prog_9_method_4_code 2 = .ok (.lmul, 1) := by decide +kernel
theorem d2_3 : decode prog_9_method_4_code 3 = .ok (.lstore 4, 2) := by decide +kernel
theorem d2_5 : decode prog_9_method_4_code 5 = .ok (.lload_n 0, 1) := by decide +kernel
theorem d2_6 : decode prog_9_method_4_code 6 = .ok (.lload_n 2, 1) := by decide +kernel
theorem d2_7 : decode prog_9_method_4_code 7 = .ok (.invokestatic 34, 3) := by decide +kernel
theorem d2_10 : decode prog_9_method_4_code 10 = .ok (.lload 4, 2) := by decide +kernel
theorem d2_12 : decode prog_9_method_4_code 12 = .ok (.bipush 63, 2) := by decide +kernel
theorem d2_14 : decode prog_9_method_4_code 14 = .ok (.lshr, 1) := by decide +kernel
theorem d2_15 : decode prog_9_method_4_code 15 = .ok (.lcmp, 1) := by decide +kernel
theorem d2_16 : decode prog_9_method_4_code 16 = .ok (.ifCond .ne 12, 3) := by decide +kernel
theorem d2_19 : decode prog_9_method_4_code 19 = .ok (.lload 4, 2) := by decide +kernel
theorem d2_21 : decode prog_9_method_4_code 21 = .ok (.ldc2_w 17, 3) := by decide +kernel
theorem d2_24 : decode prog_9_method_4_code 24 = .ok (.lcmp, 1) := by decide +kernel
theorem d2_25 : decode prog_9_method_4_code 25 = .ok (.ifCond .ne 7, 3) := by decide +kernel
theorem d2_28 : decode prog_9_method_4_code 28 = .ok (.ldc2_w 17, 3) := by decide +kernel
theorem d2_31 : decode prog_9_method_4_code 31 = .ok (.lreturn, 1) := by decide +kernel
theorem d2_32 : decode prog_9_method_4_code 32 = .ok (.lload 4, 2) := by decide +kernel
theorem d2_34 : decode prog_9_method_4_code 34 = .ok (.lreturn, 1) := by decide +kernel
theorem pn_2 : plainName "com/example/indexwright/indexwright/Unscaled" = true := by first | (simp [plainName, overriddenIn]; done) | decide +kernel
theorem pd_2_0 : parseMethodDescriptor "(JJ)J" = some ⟨[.long, .long], some .long⟩ := by decide +kernel
theorem ef_2 (m : MethodId) (x0 : Int64) (x1 : Int64) : entryFrame m #[(.long x0), (.long x1)] 6 = mkF m 0 #[.val (.long x0), .second, .val (.long x1), .second, .unset, .unset] [] := by first | (simp [entryFrame, mkF, argsToLocals, Value.category]; done) | rfl
def f2 (q1 : Int64) (q2 : Int64) : Int64 :=
  if (f3 q1 q2) = ((q1 * q2) >>> ((63 : Int32) &&& 0x3f).toInt64) then (if (q1 * q2) = (-9223372036854775808 : Int64) then (-9223372036854775808 : Int64) else
  (q1 * q2)) else
  (-9223372036854775808 : Int64)
def Q2 (Z : State) (q1 : Int64) (q2 : Int64) (h0 : Heap) (n0 : Nat) (v : Option Value) (h : Heap) (L : List Loc) : Prop := v = some (.long (f2 q1 q2)) ∧ Fr n0 L ∧ h = h0
set_option maxRecDepth 65536 in
set_option maxHeartbeats 40000000 in
theorem rm2 (l : Launch) (Z : State) (a0 : Array Value) (hw : ∀ d ∈ tables_1, d.before a0 Z = true) (ws : List Jvm.Cond) (q1 : Int64) (q2 : Int64) (h0 : Heap) (n0 : Nat) (Z0 : n0 ≤ h0.size) :
    MetFree l (⟨"com/example/indexwright/indexwright/Unscaled", "product", "(JJ)J"⟩ : MethodName) (head1 (Jvm.Cond.code (⟨"com/example/indexwright/indexwright/Unscaled", "product", "(JJ)J"⟩ : MethodName) prog_9_method_4_code 6 (some .long) :: ws) ({ frames := 1, cells := 0, slots := 0, locals := 31 } : Room)) (fun a U => a = #[(.long q1), (.long q2)] ∧ Z.Warmed39 U.vm ∧ U.heap = h0) (fun _ _ _ _ _ => True) (fun _ U o U' => ∃ v L, o = .returned v ∧ Q2 Z q1 q2 h0 n0 v U'.heap L ∧ FrameEnd U o U' L ({ frames := 1, cells := 0, slots := 0, locals := 31 } : Room).cells ({ frames := 1, cells := 0, slots := 0, locals := 31 } : Room).slots) := by
  refine MetFree.of_bodySF (plainFor_of_name pn_2) hisR ?_
  intro p e s m args below meth c s₁ Bd hml0 hP hK
  obtain ⟨rfl, hZ, hh⟩ := hP
  have hx := Bd.exec
  have hby := Bd.bytes
  have hml : c.maxLocals = 6 := hml0
  have hown : s.vm.findClass "com/example/indexwright/indexwright/Unscaled" = some m.cls := findClass_of_methodNamed Bd.named
  have hnm := (name_of_methodNamed Bd.named Bd.method).1
  have X0 : Stand p l e ({ frames := 1, cells := 0, slots := 0, locals := 31 } : Room) s m #[(.long q1), (.long q2)] below meth c s₁ [] 0 0 := Stand.of_body Bd
  have e0 : s₁.heap = h0 := by rw [← hh, Bd.state]; rfl
  have N0 := Fr.nil n0
  refine Goes.via (next := s₁.setTop (mkF m 0 #[.val (.long q1), .second, .val (.long q2), .second, .unset, .unset] [])) (fun t k => castTop (ef_2 m q1 q2) k) ?_
  refine Goes.via (fun t k => XS.lloadN X0.here hx rfl (hb hby d2_0) rfl k) ?_
  show Goes p e below (s₁.setTop (mkF m 1 #[.val (.long q1), .second, .val (.long q2), .second, .unset, .unset] [(.long q1)])) _
  refine Goes.via (fun t k => XS.lloadN X0.here hx rfl (hb hby d2_1) rfl k) ?_
  show Goes p e below (s₁.setTop (mkF m 2 #[.val (.long q1), .second, .val (.long q2), .second, .unset, .unset] [(.long q2), (.long q1)])) _
  refine Goes.via (fun t k => XS.lmul X0.here hx rfl (hb hby d2_2) rfl k) ?_
  show Goes p e below (s₁.setTop (mkF m 3 #[.val (.long q1), .second, .val (.long q2), .second, .unset, .unset] [(.long (q1 * q2))])) _
  refine Goes.via (fun t k => XS.lstore X0.here hx rfl (hb hby d2_3) rfl (l' := #[.val (.long q1), .second, .val (.long q2), .second, .val (.long (q1 * q2)), .second]) rfl k) ?_
  show Goes p e below (s₁.setTop (mkF m 5 #[.val (.long q1), .second, .val (.long q2), .second, .val (.long (q1 * q2)), .second] [])) _
  refine Goes.via (fun t k => XS.lloadN X0.here hx rfl (hb hby d2_5) rfl k) ?_
  show Goes p e below (s₁.setTop (mkF m 6 #[.val (.long q1), .second, .val (.long q2), .second, .val (.long (q1 * q2)), .second] [(.long q1)])) _
  refine Goes.via (fun t k => XS.lloadN X0.here hx rfl (hb hby d2_6) rfl k) ?_
  show Goes p e below (s₁.setTop (mkF m 7 #[.val (.long q1), .second, .val (.long q2), .second, .val (.long (q1 * q2)), .second] [(.long q2), (.long q1)])) _
  obtain ⟨_, _, ⟨T1, L1, k1, n1⟩, -, X1, ⟨Lc1, hQ1, l1, y1, z1⟩, st1⟩ := Jvm.LawKit.callS X0 hx (y := (⟨"java/lang/Math", "multiplyHigh", "(JJ)J"⟩ : MethodName)) hown (mvT hZ (hw _ (List.mem_of_getElem? (i := 9) rfl))) (mvT hZ (hw _ (List.mem_of_getElem? (i := 10) rfl))) (mvT hZ (hw _ (List.mem_of_getElem? (i := 11) rfl))) (mvT hZ (hw _ (List.mem_of_getElem? (i := 12) rfl))) (by decide) (backOf (W := 0) (rm3 l Z a0 hw [] q1 q2 h0 n0 Z0 ) hZ (hw _ (List.mem_of_getElem? (i := 12) rfl)) (hw _ (List.mem_of_getElem? (i := 11) rfl)) (by decide) (by decide)) (g := (mkF m 7 #[.val (.long q1), .second, .val (.long q2), .second, .val (.long (q1 * q2)), .second] [(.long q2), (.long q1)])) rfl (by rw [hml]; rfl) (argsL := [(.long q1), (.long q2)]) (rest := []) (lenOf pd_2_0 rfl) rfl (by show 2 * 0 + _ ≤ _; exact Nat.le_of_eq rfl) (hb hby d2_7) (fun _ _ => ⟨rfl, e0, (by decide : 0 + 0 ≤ _), (by decide : 0 + 0 ≤ _)⟩)
  dsimp only [Pt.U, Pt.locs, Pt.cells, Pt.slots] at X1 l1 y1 z1 st1 hQ1
  subst l1 y1 z1
  obtain ⟨rfl, N1q, er1⟩ := hQ1
  have e1 : T1.heap = h0 := er1
  have N1 := Fr.app N0 N1q
  refine Goes.via st1 ?_
  show Goes p e below (T1.setTop (mkF m 10 #[.val (.long q1), .second, .val (.long q2), .second, .val (.long (q1 * q2)), .second] [(.long (f3 q1 q2))])) _
  refine Goes.via (fun t k => XS.lload X1.here hx rfl (hb hby d2_10) rfl k) ?_
  show Goes p e below (T1.setTop (mkF m 12 #[.val (.long q1), .second, .val (.long q2), .second, .val (.long (q1 * q2)), .second] [(.long (q1 * q2)), (.long (f3 q1 q2))])) _
  refine Goes.via (fun t k => XS.bipush X1.here hx rfl (hb hby d2_12) k) ?_
  show Goes p e below (T1.setTop (mkF m 14 #[.val (.long q1), .second, .val (.long q2), .second, .val (.long (q1 * q2)), .second] [(.int (63 : Int32)), (.long (q1 * q2)), (.long (f3 q1 q2))])) _
  refine Goes.via (fun t k => XS.lshr X1.here hx rfl (hb hby d2_14) rfl k) ?_
  show Goes p e below (T1.setTop (mkF m 15 #[.val (.long q1), .second, .val (.long q2), .second, .val (.long (q1 * q2)), .second] [(.long ((q1 * q2) >>> ((63 : Int32) &&& 0x3f).toInt64)), (.long (f3 q1 q2))])) _
  refine Goes.via (fun t k => XS.lcmp X1.here hx rfl (hb hby d2_15) rfl k) ?_
  show Goes p e below (T1.setTop (mkF m 16 #[.val (.long q1), .second, .val (.long q2), .second, .val (.long (q1 * q2)), .second] [(.int (lcmpW (f3 q1 q2) ((q1 * q2) >>> ((63 : Int32) &&& 0x3f).toInt64)))])) _
  by_cases hc16_2 : (f3 q1 q2) = ((q1 * q2) >>> ((63 : Int32) &&& 0x3f).toInt64)
  · refine Goes.via (fun t k => XS.ifNo X1.here hx rfl (hb hby d2_16) rfl ((if0 _ _).trans (teq ((lw_eq _ _).mpr hc16_2)).2) k) ?_
    show Goes p e below (T1.setTop (mkF m 19 #[.val (.long q1), .second, .val (.long q2), .second, .val (.long (q1 * q2)), .second] [])) _
    refine Goes.via (fun t k => XS.lload X1.here hx rfl (hb hby d2_19) rfl k) ?_
    show Goes p e below (T1.setTop (mkF m 21 #[.val (.long q1), .second, .val (.long q2), .second, .val (.long (q1 * q2)), .second] [(.long (q1 * q2))])) _
    refine Goes.via (fun t k => X1.ldc2Long hx hown (mvT hZ (hw _ (List.mem_of_getElem? (i := 14) rfl))) (g := (mkF m 21 #[.val (.long q1), .second, .val (.long q2), .second, .val (.long (q1 * q2)), .second] [(.long (q1 * q2))])) rfl (hb hby d2_21) _ k) ?_
    show Goes p e below (T1.setTop (mkF m 24 #[.val (.long q1), .second, .val (.long q2), .second, .val (.long (q1 * q2)), .second] [(.long (-9223372036854775808 : Int64)), (.long (q1 * q2))])) _
    refine Goes.via (fun t k => XS.lcmp X1.here hx rfl (hb hby d2_24) rfl k) ?_
    show Goes p e below (T1.setTop (mkF m 25 #[.val (.long q1), .second, .val (.long q2), .second, .val (.long (q1 * q2)), .second] [(.int (lcmpW (q1 * q2) (-9223372036854775808 : Int64)))])) _
    by_cases hc25_3 : (q1 * q2) = (-9223372036854775808 : Int64)
    · refine Goes.via (fun t k => XS.ifNo X1.here hx rfl (hb hby d2_25) rfl ((if0 _ _).trans (teq ((lw_eq _ _).mpr hc25_3)).2) k) ?_
      show Goes p e below (T1.setTop (mkF m 28 #[.val (.long q1), .second, .val (.long q2), .second, .val (.long (q1 * q2)), .second] [])) _
      refine Goes.via (fun t k => X1.ldc2Long hx hown (mvT hZ (hw _ (List.mem_of_getElem? (i := 14) rfl))) (g := (mkF m 28 #[.val (.long q1), .second, .val (.long q2), .second, .val (.long (q1 * q2)), .second] [])) rfl (hb hby d2_28) _ k) ?_
      show Goes p e below (T1.setTop (mkF m 31 #[.val (.long q1), .second, .val (.long q2), .second, .val (.long (q1 * q2)), .second] [(.long (-9223372036854775808 : Int64))])) _
      obtain ⟨fs, hr, hrun, hended, hW, hsame⟩ := X1.leave (v := some (.long (-9223372036854775808 : Int64))) (fun h => by rw [Bd.returns] at h; cases h)
      refine ⟨_, _, ?_, hrun, hended, _, _, rfl, ?_, ⟨_, rfl⟩, hW, hsame.mono (by decide) (by decide)⟩
      · exact X1.lreturnOut hx Bd.returns (hb hby d2_31) hr
      · show Q2 Z q1 q2 h0 n0 _ T1.heap _
        rw [e1]
        exact ⟨congrArg some (congrArg _ (by simp only [f2, if_pos hc16_2, if_pos hc25_3])), N1, rfl⟩
    · refine Goes.via (fun t k => XS.ifYes X1.here hx rfl (pc0 := 25) (pc' := 32) rfl (hb hby d2_25) rfl ((if0 _ _).trans (feq (fun q => hc25_3 ((lw_eq _ _).mp q))).2) (by decide) (by decide) k) ?_
      show Goes p e below (T1.setTop (mkF m 32 #[.val (.long q1), .second, .val (.long q2), .second, .val (.long (q1 * q2)), .second] [])) _
      refine Goes.via (fun t k => XS.lload X1.here hx rfl (hb hby d2_32) rfl k) ?_
      show Goes p e below (T1.setTop (mkF m 34 #[.val (.long q1), .second, .val (.long q2), .second, .val (.long (q1 * q2)), .second] [(.long (q1 * q2))])) _
      obtain ⟨fs, hr, hrun, hended, hW, hsame⟩ := X1.leave (v := some (.long (q1 * q2))) (fun h => by rw [Bd.returns] at h; cases h)
      refine ⟨_, _, ?_, hrun, hended, _, _, rfl, ?_, ⟨_, rfl⟩, hW, hsame.mono (by decide) (by decide)⟩
      · exact X1.lreturnOut hx Bd.returns (hb hby d2_34) hr
      · show Q2 Z q1 q2 h0 n0 _ T1.heap _
        rw [e1]
        exact ⟨congrArg some (congrArg _ (by simp only [f2, if_pos hc16_2, if_neg hc25_3])), N1, rfl⟩
  · refine Goes.via (fun t k => XS.ifYes X1.here hx rfl (pc0 := 16) (pc' := 28) rfl (hb hby d2_16) rfl ((if0 _ _).trans (feq (fun q => hc16_2 ((lw_eq _ _).mp q))).2) (by decide) (by decide) k) ?_
    show Goes p e below (T1.setTop (mkF m 28 #[.val (.long q1), .second, .val (.long q2), .second, .val (.long (q1 * q2)), .second] [])) _
    refine Goes.via (fun t k => X1.ldc2Long hx hown (mvT hZ (hw _ (List.mem_of_getElem? (i := 14) rfl))) (g := (mkF m 28 #[.val (.long q1), .second, .val (.long q2), .second, .val (.long (q1 * q2)), .second] [])) rfl (hb hby d2_28) _ k) ?_
    show Goes p e below (T1.setTop (mkF m 31 #[.val (.long q1), .second, .val (.long q2), .second, .val (.long (q1 * q2)), .second] [(.long (-9223372036854775808 : Int64))])) _
    obtain ⟨fs, hr, hrun, hended, hW, hsame⟩ := X1.leave (v := some (.long (-9223372036854775808 : Int64))) (fun h => by rw [Bd.returns] at h; cases h)
    refine ⟨_, _, ?_, hrun, hended, _, _, rfl, ?_, ⟨_, rfl⟩, hW, hsame.mono (by decide) (by decide)⟩
    · exact X1.lreturnOut hx Bd.returns (hb hby d2_31) hr
    · show Q2 Z q1 q2 h0 n0 _ T1.heap _
      rw [e1]
      exact ⟨congrArg some (congrArg _ (by simp only [f2, if_neg hc16_2])), N1, rfl⟩
theorem own_shr (x : Int64) : (x >>> ((32 : Int32) &&& 0x3f).toInt64).toInt = x.toInt / 4294967296 := c_lshr x 32 32 (by decide)
theorem own_low (x : Int64) : (x &&& (4294967295 : Int64)).toInt = x.toInt % 4294967296 := c_maskL x 4294967295 32 (by decide) (by decide)
theorem own_ushr (x : Int64) : ((x.toUInt64 >>> ((32 : Int32) &&& 0x3f).toInt64.toUInt64).toInt64).toInt = (x.toInt % 18446744073709551616) / 4294967296 := c_lushr x 32 32 (by decide) (by decide)
/-- a value known modulo 2^64, and small, is known -/
theorem own_known {x : Int64} {y : Int} (h : (x.toInt - y) % 18446744073709551616 = 0) (h1 : -9223372036854775808 ≤ y) (h2 : y < 9223372036854775808) : x.toInt = y := by
  have := rng64 x
  omega
theorem own_hi (a b : Int64) : (f3 a b).toInt * 18446744073709551616 ≤ a.toInt * b.toInt ∧ a.toInt * b.toInt < (f3 a b).toInt * 18446744073709551616 + 18446744073709551616 := by
  have ra := rng64 a
  have rb := rng64 b
  have hA : a.toInt = (a.toInt / 4294967296) * 4294967296 + a.toInt % 4294967296 := by omega
  have hB : b.toInt = (b.toInt / 4294967296) * 4294967296 + b.toInt % 4294967296 := by omega
  obtain ⟨x1, hx1⟩ : ∃ z, z = a.toInt / 4294967296 := ⟨_, rfl⟩
  obtain ⟨x2, hx2⟩ : ∃ z, z = a.toInt % 4294967296 := ⟨_, rfl⟩
  obtain ⟨y1, hy1⟩ : ∃ z, z = b.toInt / 4294967296 := ⟨_, rfl⟩
  obtain ⟨y2, hy2⟩ : ∃ z, z = b.toInt % 4294967296 := ⟨_, rfl⟩
  have b1 : -2147483648 ≤ x1 ∧ x1 ≤ 2147483647 := by omega
  have b2 : 0 ≤ x2 ∧ x2 ≤ 4294967295 := by omega
  have b3 : -2147483648 ≤ y1 ∧ y1 ≤ 2147483647 := by omega
  have b4 : 0 ≤ y2 ∧ y2 ≤ 4294967295 := by omega
  have m11 := mc b1.1 b1.2 b3.1 b3.2
  have m12 := mc b1.1 b1.2 b4.1 b4.2
  have m21 := mc b2.1 b2.2 b3.1 b3.2
  have m22 := mc b2.1 b2.2 b4.1 b4.2
  have hAB : a.toInt * b.toInt = (x1 * y1) * 18446744073709551616 + (x1 * y2 + x2 * y1) * 4294967296 + x2 * y2 := by
    rw [hA, hB, ← hx1, ← hx2, ← hy1, ← hy2]
    simp only [Int.add_mul, Int.mul_add]
    have e1 : x1 * 4294967296 * (y1 * 4294967296) = x1 * y1 * 18446744073709551616 := by
      rw [Int.mul_assoc, Int.mul_left_comm 4294967296 y1, ← Int.mul_assoc]; rfl
    have e2 : x1 * 4294967296 * y2 = x1 * y2 * 4294967296 := by rw [Int.mul_assoc, Int.mul_comm 4294967296 y2, ← Int.mul_assoc]
    have e3 : x2 * (y1 * 4294967296) = x2 * y1 * 4294967296 := by rw [Int.mul_assoc]
    rw [e1, e2, e3]
    omega
  rw [hAB]
  -- the first partial product
  have c0 : ((v3_31_0 a b).toInt - x2 * y2) % 18446744073709551616 = 0 := by
    have q := c_lmul (a &&& 4294967295) (b &&& 4294967295)
    rw [own_low, own_low, ← hx2, ← hy2] at q
    exact q
  have c0' : ((v3_31_0 a b).toInt % 18446744073709551616) / 4294967296 = x2 * y2 / 4294967296 := by
    generalize (v3_31_0 a b).toInt = z at *
    generalize x2 * y2 = w at *
    omega
  -- t
  have ct : (v3_44_1 a b).toInt = x1 * y2 + x2 * y2 / 4294967296 := by
    have q := c_lmul (a >>> ((32 : Int32) &&& 0x3f).toInt64) (b &&& 4294967295)
    rw [own_shr, own_low, ← hx1, ← hy2] at q
    have q1 := own_known q (by omega) (by omega)
    have r := c_ladd ((a >>> ((32 : Int32) &&& 0x3f).toInt64) * (b &&& 4294967295)) (((v3_31_0 a b).toUInt64 >>> ((32 : Int32) &&& 0x3f).toInt64.toUInt64).toInt64)
    rw [own_ushr, c0', q1] at r
    exact own_known r (by omega) (by omega)
  have c2 : (v3_59_2 a b).toInt = (x1 * y2 + x2 * y2 / 4294967296) / 4294967296 := by
    rw [← ct]; exact own_shr _
  have c3 : (v3_69_3 a b).toInt = (x1 * y2 + x2 * y2 / 4294967296) % 4294967296 + x2 * y1 := by
    have q := c_lmul (a &&& 4294967295) (b >>> ((32 : Int32) &&& 0x3f).toInt64)
    rw [own_shr, own_low, ← hx2, ← hy1] at q
    have q1 := own_known q (by omega) (by omega)
    have r := c_ladd ((v3_44_1 a b) &&& 4294967295) ((a &&& 4294967295) * (b >>> ((32 : Int32) &&& 0x3f).toInt64))
    rw [own_low, ct, q1] at r
    exact own_known r (by omega) (by omega)
  have c4 : (f3 a b).toInt = x1 * y1 + (x1 * y2 + x2 * y2 / 4294967296) / 4294967296 + ((x1 * y2 + x2 * y2 / 4294967296) % 4294967296 + x2 * y1) / 4294967296 := by
    have q := c_lmul (a >>> ((32 : Int32) &&& 0x3f).toInt64) (b >>> ((32 : Int32) &&& 0x3f).toInt64)
    rw [own_shr, own_shr, ← hx1, ← hy1] at q
    have q1 := own_known q (by omega) (by omega)
    have r := c_ladd ((a >>> ((32 : Int32) &&& 0x3f).toInt64) * (b >>> ((32 : Int32) &&& 0x3f).toInt64)) (v3_59_2 a b)
    rw [q1, c2] at r
    have r1 := own_known r (by omega) (by omega)
    have r2 := c_ladd ((a >>> ((32 : Int32) &&& 0x3f).toInt64) * (b >>> ((32 : Int32) &&& 0x3f).toInt64) + (v3_59_2 a b)) ((v3_69_3 a b) >>> ((32 : Int32) &&& 0x3f).toInt64)
    rw [r1, own_shr, c3] at r2
    exact own_known r2 (by omega) (by omega)
  rw [c4]
  generalize x1 * y1 = P11 at *
  generalize x1 * y2 = P12 at *
  generalize x2 * y1 = P21 at *
  generalize x2 * y2 = P22 at *
  omega
theorem own_sign (x : Int64) : (x >>> ((63 : Int32) &&& 0x3f).toInt64).toInt = x.toInt / 9223372036854775808 := c_lshr x 63 63 (by decide)
def own_fits (a b : Int64) : Prop := -9223372036854775808 ≤ a.toInt * b.toInt ∧ a.toInt * b.toInt < 9223372036854775808
theorem own_min : (-9223372036854775808 : Int64).toInt = -9223372036854775808 := by decide
theorem own_prod (a b : Int64) (h : own_fits a b) : (a * b).toInt = a.toInt * b.toInt := own_known (c_lmul a b) h.1 h.2
/-- the project's product -/
theorem own_f2 (a b : Int64) : (own_fits a b → f2 a b = a * b) ∧ (¬ own_fits a b → f2 a b = -9223372036854775808) := by
  have hh := own_hi a b
  have hp := c_lmul a b
  have hr := rng64 (a * b)
  have hs := own_sign (a * b)
  constructor
  · intro hf
    have hq := own_prod a b hf
    have e : f3 a b = (a * b) >>> ((63 : Int32) &&& 0x3f).toInt64 := by
      apply Int64.toInt_inj.mp
      rw [hs, hq]
      obtain ⟨f, g⟩ := hf
      generalize a.toInt * b.toInt = P at *
      omega
    simp only [f2, if_pos e]
    split
    · rename_i q; exact q.symm
    · rfl
  · intro hf
    have e : ¬ f3 a b = (a * b) >>> ((63 : Int32) &&& 0x3f).toInt64 := by
      intro q
      apply hf
      have q' := congrArg Int64.toInt q
      rw [hs] at q'
      unfold own_fits
      generalize a.toInt * b.toInt = P at *
      generalize (a * b).toInt = p at *
      omega
    simp only [f2, if_neg e]
def own_pows : List Int64 := [1, 10, 100, 1000, 10000, 100000, 1000000, 10000000, 100000000, 1000000000, 10000000000, 100000000000, 1000000000000, 10000000000000, 100000000000000, 1000000000000000, 10000000000000000, 100000000000000000, 1000000000000000000]
def own_list : List Value := [.long 1, .long 10, .long 100, .long 1000, .long 10000, .long 100000, .long 1000000, .long 10000000, .long 100000000, .long 1000000000, .long 10000000000, .long 100000000000, .long 1000000000000, .long 10000000000000, .long 100000000000000, .long 1000000000000000, .long 10000000000000000, .long 100000000000000000, .long 1000000000000000000]
def own_pow (j : Int32) : Int64 := own_pows.getD j.toNatClampNeg 0
theorem own_in {p : Int32} (hp : ¬ p < (0 : Int32)) (h : ¬ (18 : Int32) < p) : ¬ p < (0 : Int32) ∧ p < (19 : Int32) := by
  refine ⟨hp, ?_⟩
  rw [Int32.lt_iff_toInt_lt] at *
  have e1 : (18 : Int32).toInt = 18 := by decide
  have e2 : (19 : Int32).toInt = 19 := by decide
  omega
theorem own_few {p : Int32} (hp : ¬ p < (0 : Int32)) (h : ¬ (18 : Int32) < p) : ∃ n : Fin 19, p = Int32.ofNat n.val := by
  rw [Int32.lt_iff_toInt_lt] at *
  have e0 : (0 : Int32).toInt = 0 := by decide
  have e1 : (18 : Int32).toInt = 18 := by decide
  refine ⟨⟨p.toInt.toNat, by omega⟩, ?_⟩
  apply Int32.toInt_inj.mp
  rw [Int32.toInt_ofNat_of_lt (by omega)]
  show p.toInt = ((p.toInt.toNat : Nat) : Int)
  omega
theorem own_at {p : Int32} (hp : ¬ p < (0 : Int32)) (h : ¬ (18 : Int32) < p) : own_list.getD p.toNatClampNeg (.long 0) = .long (own_pow p) := by
  have e : own_list = own_pows.map Value.long := rfl
  rw [e]
  simp only [own_pow, List.getD_eq_getElem?_getD, List.getElem?_map]
  cases own_pows[p.toNatClampNeg]? <;> rfl
theorem own_pown : ∀ n : Fin 19, 1 ≤ (own_pow (Int32.ofNat n.val)).toInt ∧ (own_pow (Int32.ofNat n.val)).toInt ≤ 1000000000000000000 := by decide +kernel
theorem own_powr {p : Int32} (hp : ¬ p < (0 : Int32)) (h : ¬ (18 : Int32) < p) : 1 ≤ (own_pow p).toInt ∧ (own_pow p).toInt ≤ 1000000000000000000 := by
  obtain ⟨n, rfl⟩ := own_few hp h
  exact own_pown n
theorem own_pow0 {p : Int32} (hp : ¬ p < (0 : Int32)) (h : ¬ (18 : Int32) < p) : ¬ own_pow p = 0 := by
  intro q
  have r := own_powr hp h
  rw [q] at r
  exact absurd r (by decide)
theorem d1_0 : decode prog_9_method_5_code 0 = .ok (.iload_n 2, 1) := by decide +kernel
theorem d1_1 : decode prog_9_method_5_code 1 = .ok (.bipush 18, 2) := by decide +kernel
theorem d1_3 : decode prog_9_method_5_code 3 = .ok (.if_icmp .le 17, 3) := by decide +kernel
theorem d1_6 : decode prog_9_method_5_code 6 = .ok (.lload_n 0, 1) := by decide +kernel
theorem d1_7 : decode prog_9_method_5_code 7 = .ok (.lconst 0, 1) := by decide +kernel
theorem d1_8 : decode prog_9_method_5_code 8 = .ok (.lcmp, 1) := by decide +kernel
theorem d1_9 : decode prog_9_method_5_code 9 = .ok (.ifCond .ne 7, 3) := by decide +kernel
theorem d1_12 : decode prog_9_method_5_code 12 = .ok (.lconst 0, 1) := by decide +kernel
theorem d1_13 : decode prog_9_method_5_code 13 = .ok (.goto 6, 3) := by decide +kernel
theorem d1_16 : decode prog_9_method_5_code 16 = .ok (.ldc2_w 17, 3) := by decide +kernel
theorem d1_19 : decode prog_9_method_5_code 19 = .ok (.lreturn, 1) := by decide +kernel
theorem d1_20 : decode prog_9_method_5_code 20 = .ok (.lload_n 0, 1) := by decide +kernel
theorem d1_21 : decode prog_9_method_5_code 21 = .ok (.getstatic 30, 3) := by decide +kernel
theorem d1_24 : decode prog_9_method_5_code 24 = .ok (.iload_n 2, 1) := by decide +kernel
theorem d1_25 : decode prog_9_method_5_code 25 = .ok (.laload, 1) := by decide +kernel
theorem d1_26 : decode prog_9_method_5_code 26 = .ok (.invokestatic 40, 3) := by decide +kernel
theorem d1_29 : decode prog_9_method_5_code 29 = .ok (.lreturn, 1) := by decide +kernel
theorem pn_1 : plainName "com/example/indexwright/indexwright/Unscaled" = true := by first | (simp [plainName, overriddenIn]; done) | decide +kernel
theorem pd_1_0 : parseMethodDescriptor "(JJ)J" = some ⟨[.long, .long], some .long⟩ := by decide +kernel
theorem ef_1 (m : MethodId) (x0 : Int64) (x1 : Int32) : entryFrame m #[(.long x0), (.int x1)] 3 = mkF m 0 #[.val (.long x0), .second, .val (.int x1)] [] := by first | (simp [entryFrame, mkF, argsToLocals, Value.category]; done) | rfl
def v1_19_0 (q1 : Int64) : Int64 := (if q1 = (0 : Int64) then (0 : Int64) else (-9223372036854775808 : Int64))
def f1 (q1 : Int64) (p1 : Int32) : Int64 :=
  if (18 : Int32) < p1 then (v1_19_0 q1) else
  (f2 q1 (own_pow p1))
def Q1 (Z : State) (q1 : Int64) (p1 : Int32) (h0 : Heap) (n0 : Nat) (v : Option Value) (h : Heap) (L : List Loc) : Prop := v = some (.long (f1 q1 p1)) ∧ Fr n0 L ∧ h = h0
set_option maxRecDepth 65536 in
set_option maxHeartbeats 40000000 in
theorem rm1 (l : Launch) (Z : State) (a0 : Array Value) (hw : ∀ d ∈ tables_1, d.before a0 Z = true) (ws : List Jvm.Cond) (q1 : Int64) (p1 : Int32) (r1 : Addr) (k1 : ClassId) (h0 : Heap) (n0 : Nat) (Z0 : n0 ≤ h0.size) (S1 : Sta Z h0 "com/example/indexwright/indexwright/Unscaled" "POWERS_OF_TEN" "[J" (.ref r1)) (V1 : Arv Z h0 r1 k1 .long 19 own_list (.long 0)) (hp : ¬ p1 < (0 : Int32)) :
    MetFree l (⟨"com/example/indexwright/indexwright/Unscaled", "rescale", "(JI)J"⟩ : MethodName) (head1 (Jvm.Cond.code (⟨"com/example/indexwright/indexwright/Unscaled", "rescale", "(JI)J"⟩ : MethodName) prog_9_method_5_code 3 (some .long) :: ws) ({ frames := 2, cells := 0, slots := 0, locals := 48 } : Room)) (fun a U => a = #[(.long q1), (.int p1)] ∧ Z.Warmed39 U.vm ∧ U.heap = h0) (fun _ _ _ _ _ => True) (fun _ U o U' => ∃ v L, o = .returned v ∧ Q1 Z q1 p1 h0 n0 v U'.heap L ∧ FrameEnd U o U' L ({ frames := 2, cells := 0, slots := 0, locals := 48 } : Room).cells ({ frames := 2, cells := 0, slots := 0, locals := 48 } : Room).slots) := by
  refine MetFree.of_bodySF (plainFor_of_name pn_1) hisR ?_
  intro p e s m args below meth c s₁ Bd hml0 hP hK
  obtain ⟨rfl, hZ, hh⟩ := hP
  have hx := Bd.exec
  have hby := Bd.bytes
  have hml : c.maxLocals = 3 := hml0
  have hown : s.vm.findClass "com/example/indexwright/indexwright/Unscaled" = some m.cls := findClass_of_methodNamed Bd.named
  have hnm := (name_of_methodNamed Bd.named Bd.method).1
  have X0 : Stand p l e ({ frames := 2, cells := 0, slots := 0, locals := 48 } : Room) s m #[(.long q1), (.int p1)] below meth c s₁ [] 0 0 := Stand.of_body Bd
  have e0 : s₁.heap = h0 := by rw [← hh, Bd.state]; rfl
  have N0 := Fr.nil n0
  refine Goes.via (next := s₁.setTop (mkF m 0 #[.val (.long q1), .second, .val (.int p1)] [])) (fun t k => castTop (ef_1 m q1 p1) k) ?_
  refine Goes.via (fun t k => XS.iloadN X0.here hx rfl (hb hby d1_0) rfl k) ?_
  show Goes p e below (s₁.setTop (mkF m 1 #[.val (.long q1), .second, .val (.int p1)] [(.int p1)])) _
  refine Goes.via (fun t k => XS.bipush X0.here hx rfl (hb hby d1_1) k) ?_
  show Goes p e below (s₁.setTop (mkF m 3 #[.val (.long q1), .second, .val (.int p1)] [(.int (18 : Int32)), (.int p1)])) _
  by_cases hc3_1 : (18 : Int32) < p1
  · refine Goes.via (fun t k => XS.icmpNo X0.here hx rfl (hb hby d1_3) rfl (tlt hc3_1).2.2.2 k) ?_
    show Goes p e below (s₁.setTop (mkF m 6 #[.val (.long q1), .second, .val (.int p1)] [])) _
    refine Goes.via (fun t k => XS.lloadN X0.here hx rfl (hb hby d1_6) rfl k) ?_
    show Goes p e below (s₁.setTop (mkF m 7 #[.val (.long q1), .second, .val (.int p1)] [(.long q1)])) _
    refine Goes.via (fun t k => XS.lconst X0.here hx rfl (hb hby d1_7) k) ?_
    show Goes p e below (s₁.setTop (mkF m 8 #[.val (.long q1), .second, .val (.int p1)] [(.long (0 : Int64)), (.long q1)])) _
    refine Goes.via (fun t k => XS.lcmp X0.here hx rfl (hb hby d1_8) rfl k) ?_
    show Goes p e below (s₁.setTop (mkF m 9 #[.val (.long q1), .second, .val (.int p1)] [(.int (lcmpW q1 (0 : Int64)))])) _
    refine Goes.via (next := s₁.setTop (mkF m 19 #[.val (.long q1), .second, .val (.int p1)] [(.long (v1_19_0 q1))])) (fun t k => ?_) ?_
    · by_cases hc9_2 : q1 = (0 : Int64)
      · refine XS.ifNo X0.here hx rfl (hb hby d1_9) rfl ((if0 _ _).trans (teq ((lw_eq _ _).mpr hc9_2)).2) ?_
        show Steps p.tables e below (s₁.setTop (mkF m 12 #[.val (.long q1), .second, .val (.int p1)] [])) _
        refine XS.lconst X0.here hx rfl (hb hby d1_12) ?_
        show Steps p.tables e below (s₁.setTop (mkF m 13 #[.val (.long q1), .second, .val (.int p1)] [(.long (0 : Int64))])) _
        refine XS.goto X0.here hx rfl (pc0 := 13) (pc' := 19) rfl (hb hby d1_13) (by decide) (by decide) ?_
        show Steps p.tables e below (s₁.setTop (mkF m 19 #[.val (.long q1), .second, .val (.int p1)] [(.long (0 : Int64))])) _
        simpa only [v1_19_0, if_pos hc9_2] using k
      · refine XS.ifYes X0.here hx rfl (pc0 := 9) (pc' := 16) rfl (hb hby d1_9) rfl ((if0 _ _).trans (feq (fun q => hc9_2 ((lw_eq _ _).mp q))).2) (by decide) (by decide) ?_
        show Steps p.tables e below (s₁.setTop (mkF m 16 #[.val (.long q1), .second, .val (.int p1)] [])) _
        refine X0.ldc2Long hx hown (mvT hZ (hw _ (List.mem_of_getElem? (i := 14) rfl))) (g := (mkF m 16 #[.val (.long q1), .second, .val (.int p1)] [])) rfl (hb hby d1_16) _ ?_
        show Steps p.tables e below (s₁.setTop (mkF m 19 #[.val (.long q1), .second, .val (.int p1)] [(.long (-9223372036854775808 : Int64))])) _
        simpa only [v1_19_0, if_neg hc9_2] using k
    show Goes p e below (s₁.setTop (mkF m 19 #[.val (.long q1), .second, .val (.int p1)] [(.long (v1_19_0 q1))])) _
    obtain ⟨fs, hr, hrun, hended, hW, hsame⟩ := X0.leave (v := some (.long (v1_19_0 q1))) (fun h => by rw [Bd.returns] at h; cases h)
    refine ⟨_, _, ?_, hrun, hended, _, _, rfl, ?_, ⟨_, rfl⟩, hW, hsame.mono (by decide) (by decide)⟩
    · exact X0.lreturnOut hx Bd.returns (hb hby d1_19) hr
    · show Q1 Z q1 p1 h0 n0 _ s₁.heap _
      rw [e0]
      exact ⟨congrArg some (congrArg _ (by simp only [f1, if_pos hc3_1])), N0, rfl⟩
  · refine Goes.via (fun t k => XS.icmpYes X0.here hx rfl (pc0 := 3) (pc' := 20) rfl (hb hby d1_3) rfl (flt hc3_1).2.2.2 (by decide) (by decide) k) ?_
    show Goes p e below (s₁.setTop (mkF m 20 #[.val (.long q1), .second, .val (.int p1)] [])) _
    refine Goes.via (fun t k => XS.lloadN X0.here hx rfl (hb hby d1_20) rfl k) ?_
    show Goes p e below (s₁.setTop (mkF m 21 #[.val (.long q1), .second, .val (.int p1)] [(.long q1)])) _
    obtain ⟨T3, X3, e3, st3⟩ := getS2 X0 hx hZ hown (host := "") (Or.inl (hw _ (List.mem_of_getElem? (i := 4) rfl))) Via.refl e0 S1 (g := (mkF m 21 #[.val (.long q1), .second, .val (.int p1)] [(.long q1)])) rfl (hb hby d1_21)
    refine Goes.via st3 ?_
    show Goes p e below (T3.setTop (mkF m 24 #[.val (.long q1), .second, .val (.int p1)] [(.ref r1), (.long q1)])) _
    refine Goes.via (fun t k => XS.iloadN X3.here hx rfl (hb hby d1_24) rfl k) ?_
    show Goes p e below (T3.setTop (mkF m 25 #[.val (.long q1), .second, .val (.int p1)] [(.int p1), (.ref r1), (.long q1)])) _
    obtain ⟨cl4, Ar4, qa4, Sa4, Na4, Ha4, Ga4⟩ := id V1
    have hin4 : ¬ (p1 < 0 ∨ cl4.slots.size ≤ (p1).toNatClampNeg) := inb_of Sa4 (own_in hp hc3_1)
    have hat4 : cl4.slots[(p1).toNatClampNeg]? = some (.long (own_pow p1)) := Ha4.at hin4 (own_at hp hc3_1)
    refine Goes.via (fun t k => X3.laload hx (j := p1) (v := (.long (own_pow p1))) (by rw [e3]; exact Ar4.1) (State.isArrayOf_alike hZ.alike Ar4.2.1) Ar4.2.2 hin4 hat4 (g := (mkF m 25 #[.val (.long q1), .second, .val (.int p1)] [(.int p1), (.ref r1), (.long q1)])) rfl rfl (hb hby d1_25) _ k) ?_
    show Goes p e below (T3.setTop (mkF m 26 #[.val (.long q1), .second, .val (.int p1)] [(.long (own_pow p1)), (.long q1)])) _
    obtain ⟨_, _, ⟨T5, L5, k5, n5⟩, -, X5, ⟨Lc5, hQ5, l5, y5, z5⟩, st5⟩ := Jvm.LawKit.callS X3 hx (y := (⟨"com/example/indexwright/indexwright/Unscaled", "product", "(JJ)J"⟩ : MethodName)) hown (mvT hZ (hw _ (List.mem_of_getElem? (i := 6) rfl))) (mvT hZ (hw _ (List.mem_of_getElem? (i := 7) rfl))) (mvT hZ (hw _ (List.mem_of_getElem? (i := 2) rfl))) (mvT hZ (hw _ (List.mem_of_getElem? (i := 8) rfl))) (by decide) (backOf (W := 0) (rm2 l Z a0 hw [] q1 (own_pow p1) h0 n0 Z0 ) hZ (hw _ (List.mem_of_getElem? (i := 8) rfl)) (hw _ (List.mem_of_getElem? (i := 2) rfl)) (by decide) (by decide)) (g := (mkF m 26 #[.val (.long q1), .second, .val (.int p1)] [(.long (own_pow p1)), (.long q1)])) rfl (by rw [hml]; rfl) (argsL := [(.long q1), (.long (own_pow p1))]) (rest := []) (lenOf pd_1_0 rfl) rfl (by show 2 * 0 + _ ≤ _; exact Nat.le_of_eq rfl) (hb hby d1_26) (fun _ _ => ⟨rfl, e3, (by decide : 0 + 0 ≤ _), (by decide : 0 + 0 ≤ _)⟩)
    dsimp only [Pt.U, Pt.locs, Pt.cells, Pt.slots] at X5 l5 y5 z5 st5 hQ5
    subst l5 y5 z5
    obtain ⟨rfl, N5q, er5⟩ := hQ5
    have e5 : T5.heap = h0 := er5
    have N5 := Fr.app N0 N5q
    refine Goes.via st5 ?_
    show Goes p e below (T5.setTop (mkF m 29 #[.val (.long q1), .second, .val (.int p1)] [(.long (f2 q1 (own_pow p1)))])) _
    obtain ⟨fs, hr, hrun, hended, hW, hsame⟩ := X5.leave (v := some (.long (f2 q1 (own_pow p1)))) (fun h => by rw [Bd.returns] at h; cases h)
    refine ⟨_, _, ?_, hrun, hended, _, _, rfl, ?_, ⟨_, rfl⟩, hW, hsame.mono (by decide) (by decide)⟩
    · exact X5.lreturnOut hx Bd.returns (hb hby d1_29) hr
    · show Q1 Z q1 p1 h0 n0 _ T5.heap _
      rw [e5]
      exact ⟨congrArg some (congrArg _ (by simp only [f1, if_neg hc3_1])), N5, rfl⟩
theorem d4_0 : decode method_3_code 0 = .ok (.iload_n 2, 1) := by decide +kernel
theorem d4_1 : decode method_3_code 1 = .ok (.bipush 18, 2) := by decide +kernel
theorem d4_3 : decode method_3_code 3 = .ok (.if_icmp .le 17, 3) := by decide +kernel
theorem d4_6 : decode method_3_code 6 = .ok (.lload_n 0, 1) := by decide +kernel
theorem d4_7 : decode method_3_code 7 = .ok (.lconst 0, 1) := by decide +kernel
theorem d4_8 : decode method_3_code 8 = .ok (.lcmp, 1) := by decide +kernel
theorem d4_9 : decode method_3_code 9 = .ok (.ifCond .ne 7, 3) := by decide +kernel
theorem d4_12 : decode method_3_code 12 = .ok (.lconst 0, 1) := by decide +kernel
theorem d4_13 : decode method_3_code 13 = .ok (.goto 6, 3) := by decide +kernel
theorem d4_16 : decode method_3_code 16 = .ok (.ldc2_w 20, 3) := by decide +kernel
theorem d4_19 : decode method_3_code 19 = .ok (.lreturn, 1) := by decide +kernel
theorem d4_20 : decode method_3_code 20 = .ok (.bipush 19, 2) := by decide +kernel
theorem d4_22 : decode method_3_code 22 = .ok (.newarray .long, 2) := by decide +kernel
theorem d4_24 : decode method_3_code 24 = .ok (.dup, 1) := by decide +kernel
theorem d4_25 : decode method_3_code 25 = .ok (.iconst 0, 1) := by decide +kernel
theorem d4_26 : decode method_3_code 26 = .ok (.lconst 1, 1) := by decide +kernel
theorem d4_27 : decode method_3_code 27 = .ok (.lastore, 1) := by decide +kernel
theorem d4_28 : decode method_3_code 28 = .ok (.dup, 1) := by decide +kernel
theorem d4_29 : decode method_3_code 29 = .ok (.iconst 1, 1) := by decide +kernel
theorem d4_30 : decode method_3_code 30 = .ok (.ldc2_w 22, 3) := by decide +kernel
theorem d4_33 : decode method_3_code 33 = .ok (.lastore, 1) := by decide +kernel
theorem d4_34 : decode method_3_code 34 = .ok (.dup, 1) := by decide +kernel
theorem d4_35 : decode method_3_code 35 = .ok (.iconst 2, 1) := by decide +kernel
theorem d4_36 : decode method_3_code 36 = .ok (.ldc2_w 24, 3) := by decide +kernel
theorem d4_39 : decode method_3_code 39 = .ok (.lastore, 1) := by decide +kernel
theorem d4_40 : decode method_3_code 40 = .ok (.dup, 1) := by decide +kernel
theorem d4_41 : decode method_3_code 41 = .ok (.iconst 3, 1) := by decide +kernel
theorem d4_42 : decode method_3_code 42 = .ok (.ldc2_w 26, 3) := by decide +kernel
theorem d4_45 : decode method_3_code 45 = .ok (.lastore, 1) := by decide +kernel
theorem d4_46 : decode method_3_code 46 = .ok (.dup, 1) := by decide +kernel
theorem d4_47 : decode method_3_code 47 = .ok (.iconst 4, 1) := by decide +kernel
theorem d4_48 : decode method_3_code 48 = .ok (.ldc2_w 28, 3) := by decide +kernel
theorem d4_51 : decode method_3_code 51 = .ok (.lastore, 1) := by decide +kernel
theorem d4_52 : decode method_3_code 52 = .ok (.dup, 1) := by decide +kernel
theorem d4_53 : decode method_3_code 53 = .ok (.iconst 5, 1) := by decide +kernel
theorem d4_54 : decode method_3_code 54 = .ok (.ldc2_w 30, 3) := by decide +kernel
theorem d4_57 : decode method_3_code 57 = .ok (.lastore, 1) := by decide +kernel
theorem d4_58 : decode method_3_code 58 = .ok (.dup, 1) := by decide +kernel
theorem d4_59 : decode method_3_code 59 = .ok (.bipush 6, 2) := by decide +kernel
theorem d4_61 : decode method_3_code 61 = .ok (.ldc2_w 32, 3) := by decide +kernel
theorem d4_64 : decode method_3_code 64 = .ok (.lastore, 1) := by decide +kernel
theorem d4_65 : decode method_3_code 65 = .ok (.dup, 1) := by decide +kernel
theorem d4_66 : decode method_3_code 66 = .ok (.bipush 7, 2) := by decide +kernel
theorem d4_68 : decode method_3_code 68 = .ok (.ldc2_w 34, 3) := by decide +kernel
theorem d4_71 : decode method_3_code 71 = .ok (.lastore, 1) := by decide +kernel
theorem d4_72 : decode method_3_code 72 = .ok (.dup, 1) := by decide +kernel
theorem d4_73 : decode method_3_code 73 = .ok (.bipush 8, 2) := by decide +kernel
theorem d4_75 : decode method_3_code 75 = .ok (.ldc2_w 36, 3) := by decide +kernel
theorem d4_78 : decode method_3_code 78 = .ok (.lastore, 1) := by decide +kernel
theorem d4_79 : decode method_3_code 79 = .ok (.dup, 1) := by decide +kernel
theorem d4_80 : decode method_3_code 80 = .ok (.bipush 9, 2) := by decide +kernel
theorem d4_82 : decode method_3_code 82 = .ok (.ldc2_w 38, 3) := by decide +kernel
theorem d4_85 : decode method_3_code 85 = .ok (.lastore, 1) := by decide +kernel
theorem d4_86 : decode method_3_code 86 = .ok (.dup, 1) := by decide +kernel
theorem d4_87 : decode method_3_code 87 = .ok (.bipush 10, 2) := by decide +kernel
theorem d4_89 : decode method_3_code 89 = .ok (.ldc2_w 40, 3) := by decide +kernel
theorem d4_92 : decode method_3_code 92 = .ok (.lastore, 1) := by decide +kernel
theorem d4_93 : decode method_3_code 93 = .ok (.dup, 1) := by decide +kernel
theorem d4_94 : decode method_3_code 94 = .ok (.bipush 11, 2) := by decide +kernel
theorem d4_96 : decode method_3_code 96 = .ok (.ldc2_w 42, 3) := by decide +kernel
theorem d4_99 : decode method_3_code 99 = .ok (.lastore, 1) := by decide +kernel
theorem d4_100 : decode method_3_code 100 = .ok (.dup, 1) := by decide +kernel
theorem d4_101 : decode method_3_code 101 = .ok (.bipush 12, 2) := by decide +kernel
theorem d4_103 : decode method_3_code 103 = .ok (.ldc2_w 44, 3) := by decide +kernel
theorem d4_106 : decode method_3_code 106 = .ok (.lastore, 1) := by decide +kernel
theorem d4_107 : decode method_3_code 107 = .ok (.dup, 1) := by decide +kernel
theorem d4_108 : decode method_3_code 108 = .ok (.bipush 13, 2) := by decide +kernel
theorem d4_110 : decode method_3_code 110 = .ok (.ldc2_w 46, 3) := by decide +kernel
theorem d4_113 : decode method_3_code 113 = .ok (.lastore, 1) := by decide +kernel
theorem d4_114 : decode method_3_code 114 = .ok (.dup, 1) := by decide +kernel
theorem d4_115 : decode method_3_code 115 = .ok (.bipush 14, 2) := by decide +kernel
theorem d4_117 : decode method_3_code 117 = .ok (.ldc2_w 48, 3) := by decide +kernel
theorem d4_120 : decode method_3_code 120 = .ok (.lastore, 1) := by decide +kernel
theorem d4_121 : decode method_3_code 121 = .ok (.dup, 1) := by decide +kernel
theorem d4_122 : decode method_3_code 122 = .ok (.bipush 15, 2) := by decide +kernel
theorem d4_124 : decode method_3_code 124 = .ok (.ldc2_w 50, 3) := by decide +kernel
theorem d4_127 : decode method_3_code 127 = .ok (.lastore, 1) := by decide +kernel
theorem d4_128 : decode method_3_code 128 = .ok (.dup, 1) := by decide +kernel
theorem d4_129 : decode method_3_code 129 = .ok (.bipush 16, 2) := by decide +kernel
theorem d4_131 : decode method_3_code 131 = .ok (.ldc2_w 52, 3) := by decide +kernel
theorem d4_134 : decode method_3_code 134 = .ok (.lastore, 1) := by decide +kernel
theorem d4_135 : decode method_3_code 135 = .ok (.dup, 1) := by decide +kernel
theorem d4_136 : decode method_3_code 136 = .ok (.bipush 17, 2) := by decide +kernel
theorem d4_138 : decode method_3_code 138 = .ok (.ldc2_w 54, 3) := by decide +kernel
theorem d4_141 : decode method_3_code 141 = .ok (.lastore, 1) := by decide +kernel
theorem d4_142 : decode method_3_code 142 = .ok (.dup, 1) := by decide +kernel
theorem d4_143 : decode method_3_code 143 = .ok (.bipush 18, 2) := by decide +kernel
theorem d4_145 : decode method_3_code 145 = .ok (.ldc2_w 56, 3) := by decide +kernel
theorem d4_148 : decode method_3_code 148 = .ok (.lastore, 1) := by decide +kernel
theorem d4_149 : decode method_3_code 149 = .ok (.astore_n 3, 1) := by decide +kernel
theorem d4_150 : decode method_3_code 150 = .ok (.aload_n 3, 1) := by decide +kernel
theorem d4_151 : decode method_3_code 151 = .ok (.iload_n 2, 1) := by decide +kernel
theorem d4_152 : decode method_3_code 152 = .ok (.laload, 1) := by decide +kernel
theorem d4_153 : decode method_3_code 153 = .ok (.lstore 4, 2) := by decide +kernel
theorem d4_155 : decode method_3_code 155 = .ok (.lload_n 0, 1) := by decide +kernel
theorem d4_156 : decode method_3_code 156 = .ok (.ldc2_w 58, 3) := by decide +kernel
theorem d4_159 : decode method_3_code 159 = .ok (.lload 4, 2) := by decide +kernel
theorem d4_161 : decode method_3_code 161 = .ok (.ldiv, 1) := by decide +kernel
theorem d4_162 : decode method_3_code 162 = .ok (.lcmp, 1) := by decide +kernel
theorem d4_163 : decode method_3_code 163 = .ok (.ifCond .gt 14, 3) := by decide +kernel
theorem d4_166 : decode method_3_code 166 = .ok (.lload_n 0, 1) := by decide +kernel
theorem d4_167 : decode method_3_code 167 = .ok (.ldc2_w 20, 3) := by decide +kernel
theorem d4_170 : decode method_3_code 170 = .ok (.lload 4, 2) := by decide +kernel
theorem d4_172 : decode method_3_code 172 = .ok (.ldiv, 1) := by decide +kernel
theorem d4_173 : decode method_3_code 173 = .ok (.lcmp, 1) := by decide +kernel
theorem d4_174 : decode method_3_code 174 = .ok (.ifCond .ge 7, 3) := by decide +kernel
theorem d4_177 : decode method_3_code 177 = .ok (.ldc2_w 20, 3) := by decide +kernel
theorem d4_180 : decode method_3_code 180 = .ok (.lreturn, 1) := by decide +kernel
theorem d4_181 : decode method_3_code 181 = .ok (.lload_n 0, 1) := by decide +kernel
theorem d4_182 : decode method_3_code 182 = .ok (.lload 4, 2) := by decide +kernel
theorem d4_184 : decode method_3_code 184 = .ok (.lmul, 1) := by decide +kernel
theorem d4_185 : decode method_3_code 185 = .ok (.lreturn, 1) := by decide +kernel
theorem pn_4 : plainName "com/example/indexwright/indexwright/UnscaledRescalePinLaw" = true := by first | (simp [plainName, overriddenIn]; done) | decide +kernel
theorem ef_4 (m : MethodId) (x0 : Int64) (x1 : Int32) : entryFrame m #[(.long x0), (.int x1)] 6 = mkF m 0 #[.val (.long x0), .second, .val (.int x1), .unset, .unset, .unset] [] := by first | (simp [entryFrame, mkF, argsToLocals, Value.category]; done) | rfl
def v4_19_0 (q1 : Int64) : Int64 := (if q1 = (0 : Int64) then (0 : Int64) else (-9223372036854775808 : Int64))
def f4 (q1 : Int64) (p1 : Int32) : Int64 :=
  if (18 : Int32) < p1 then (v4_19_0 q1) else
  if ((9223372036854775807 : Int64) / (own_pow p1)) < q1 then (-9223372036854775808 : Int64) else
  if q1 < ((-9223372036854775808 : Int64) / (own_pow p1)) then (-9223372036854775808 : Int64) else
  (q1 * (own_pow p1))
def Q4 (Z : State) (q1 : Int64) (p1 : Int32) (h0 : Heap) (n0 : Nat) (v : Option Value) (h : Heap) (L : List Loc) : Prop := v = some (.long (f4 q1 p1)) ∧ Fr n0 L ∧ Keep h0 h []
set_option maxRecDepth 65536 in
set_option maxHeartbeats 40000000 in
theorem rm4 (l : Launch) (Z : State) (a0 : Array Value) (hw : ∀ d ∈ tables_1, d.before a0 Z = true) (ws : List Jvm.Cond) (q1 : Int64) (p1 : Int32) (h0 : Heap) (n0 : Nat) (Z0 : n0 ≤ h0.size) (hp : ¬ p1 < (0 : Int32)) :
    MetFree l (⟨"com/example/indexwright/indexwright/UnscaledRescalePinLaw", "expected", "(JI)J"⟩ : MethodName) (head1 (Jvm.Cond.code (⟨"com/example/indexwright/indexwright/UnscaledRescalePinLaw", "expected", "(JI)J"⟩ : MethodName) method_3_code 6 (some .long) :: ws) ({ frames := 0, cells := 1, slots := 19, locals := 0 } : Room)) (fun a U => a = #[(.long q1), (.int p1)] ∧ Z.Warmed39 U.vm ∧ U.heap = h0) (fun _ _ _ _ _ => True) (fun _ U o U' => ∃ v L, o = .returned v ∧ Q4 Z q1 p1 h0 n0 v U'.heap L ∧ FrameEnd U o U' L ({ frames := 0, cells := 1, slots := 19, locals := 0 } : Room).cells ({ frames := 0, cells := 1, slots := 19, locals := 0 } : Room).slots) := by
  refine MetFree.of_bodySF (plainFor_of_name pn_4) hisR ?_
  intro p e s m args below meth c s₁ Bd hml0 hP hK
  obtain ⟨rfl, hZ, hh⟩ := hP
  have hx := Bd.exec
  have hby := Bd.bytes
  have hml : c.maxLocals = 6 := hml0
  have hown : s.vm.findClass "com/example/indexwright/indexwright/UnscaledRescalePinLaw" = some m.cls := findClass_of_methodNamed Bd.named
  have hnm := (name_of_methodNamed Bd.named Bd.method).1
  have X0 : Stand p l e ({ frames := 0, cells := 1, slots := 19, locals := 0 } : Room) s m #[(.long q1), (.int p1)] below meth c s₁ [] 0 0 := Stand.of_body Bd
  have e0 : s₁.heap = h0 := by rw [← hh, Bd.state]; rfl
  have N0 := Fr.nil n0
  refine Goes.via (next := s₁.setTop (mkF m 0 #[.val (.long q1), .second, .val (.int p1), .unset, .unset, .unset] [])) (fun t k => castTop (ef_4 m q1 p1) k) ?_
  refine Goes.via (fun t k => XS.iloadN X0.here hx rfl (hb hby d4_0) rfl k) ?_
  show Goes p e below (s₁.setTop (mkF m 1 #[.val (.long q1), .second, .val (.int p1), .unset, .unset, .unset] [(.int p1)])) _
  refine Goes.via (fun t k => XS.bipush X0.here hx rfl (hb hby d4_1) k) ?_
  show Goes p e below (s₁.setTop (mkF m 3 #[.val (.long q1), .second, .val (.int p1), .unset, .unset, .unset] [(.int (18 : Int32)), (.int p1)])) _
  by_cases hc3_1 : (18 : Int32) < p1
  · refine Goes.via (fun t k => XS.icmpNo X0.here hx rfl (hb hby d4_3) rfl (tlt hc3_1).2.2.2 k) ?_
    show Goes p e below (s₁.setTop (mkF m 6 #[.val (.long q1), .second, .val (.int p1), .unset, .unset, .unset] [])) _
    refine Goes.via (fun t k => XS.lloadN X0.here hx rfl (hb hby d4_6) rfl k) ?_
    show Goes p e below (s₁.setTop (mkF m 7 #[.val (.long q1), .second, .val (.int p1), .unset, .unset, .unset] [(.long q1)])) _
    refine Goes.via (fun t k => XS.lconst X0.here hx rfl (hb hby d4_7) k) ?_
    show Goes p e below (s₁.setTop (mkF m 8 #[.val (.long q1), .second, .val (.int p1), .unset, .unset, .unset] [(.long (0 : Int64)), (.long q1)])) _
    refine Goes.via (fun t k => XS.lcmp X0.here hx rfl (hb hby d4_8) rfl k) ?_
    show Goes p e below (s₁.setTop (mkF m 9 #[.val (.long q1), .second, .val (.int p1), .unset, .unset, .unset] [(.int (lcmpW q1 (0 : Int64)))])) _
    refine Goes.via (next := s₁.setTop (mkF m 19 #[.val (.long q1), .second, .val (.int p1), .unset, .unset, .unset] [(.long (v4_19_0 q1))])) (fun t k => ?_) ?_
    · by_cases hc9_2 : q1 = (0 : Int64)
      · refine XS.ifNo X0.here hx rfl (hb hby d4_9) rfl ((if0 _ _).trans (teq ((lw_eq _ _).mpr hc9_2)).2) ?_
        show Steps p.tables e below (s₁.setTop (mkF m 12 #[.val (.long q1), .second, .val (.int p1), .unset, .unset, .unset] [])) _
        refine XS.lconst X0.here hx rfl (hb hby d4_12) ?_
        show Steps p.tables e below (s₁.setTop (mkF m 13 #[.val (.long q1), .second, .val (.int p1), .unset, .unset, .unset] [(.long (0 : Int64))])) _
        refine XS.goto X0.here hx rfl (pc0 := 13) (pc' := 19) rfl (hb hby d4_13) (by decide) (by decide) ?_
        show Steps p.tables e below (s₁.setTop (mkF m 19 #[.val (.long q1), .second, .val (.int p1), .unset, .unset, .unset] [(.long (0 : Int64))])) _
        simpa only [v4_19_0, if_pos hc9_2] using k
      · refine XS.ifYes X0.here hx rfl (pc0 := 9) (pc' := 16) rfl (hb hby d4_9) rfl ((if0 _ _).trans (feq (fun q => hc9_2 ((lw_eq _ _).mp q))).2) (by decide) (by decide) ?_
        show Steps p.tables e below (s₁.setTop (mkF m 16 #[.val (.long q1), .second, .val (.int p1), .unset, .unset, .unset] [])) _
        refine X0.ldc2Long hx hown (mvT hZ (hw _ (List.mem_of_getElem? (i := 39) rfl))) (g := (mkF m 16 #[.val (.long q1), .second, .val (.int p1), .unset, .unset, .unset] [])) rfl (hb hby d4_16) _ ?_
        show Steps p.tables e below (s₁.setTop (mkF m 19 #[.val (.long q1), .second, .val (.int p1), .unset, .unset, .unset] [(.long (-9223372036854775808 : Int64))])) _
        simpa only [v4_19_0, if_neg hc9_2] using k
    show Goes p e below (s₁.setTop (mkF m 19 #[.val (.long q1), .second, .val (.int p1), .unset, .unset, .unset] [(.long (v4_19_0 q1))])) _
    obtain ⟨fs, hr, hrun, hended, hW, hsame⟩ := X0.leave (v := some (.long (v4_19_0 q1))) (fun h => by rw [Bd.returns] at h; cases h)
    refine ⟨_, _, ?_, hrun, hended, _, _, rfl, ?_, ⟨_, rfl⟩, hW, hsame.mono (by decide) (by decide)⟩
    · exact X0.lreturnOut hx Bd.returns (hb hby d4_19) hr
    · show Q4 Z q1 p1 h0 n0 _ s₁.heap _
      rw [e0]
      exact ⟨congrArg some (congrArg _ (by simp only [f4, if_pos hc3_1])), N0, (Keep.refl h0 [])⟩
  · refine Goes.via (fun t k => XS.icmpYes X0.here hx rfl (pc0 := 3) (pc' := 20) rfl (hb hby d4_3) rfl (flt hc3_1).2.2.2 (by decide) (by decide) k) ?_
    show Goes p e below (s₁.setTop (mkF m 20 #[.val (.long q1), .second, .val (.int p1), .unset, .unset, .unset] [])) _
    refine Goes.via (fun t k => XS.bipush X0.here hx rfl (hb hby d4_20) k) ?_
    show Goes p e below (s₁.setTop (mkF m 22 #[.val (.long q1), .second, .val (.int p1), .unset, .unset, .unset] [(.int (19 : Int32))])) _
    obtain ⟨T3, h3, k3, X3, e3, E3, A3, st3⟩ := newP X0 hx hZ (hw _ (List.mem_of_getElem? (i := 19) rfl)) e0 (g := (mkF m 22 #[.val (.long q1), .second, .val (.int p1), .unset, .unset, .unset] [(.int (19 : Int32))])) rfl (hb hby d4_22) rfl (by decide) (cap := 19) (by decide) (by decide) (by decide) (by decide)
    obtain ⟨b3, g3⟩ : ∃ z, z = h0.size := ⟨_, rfl⟩
    rw [← g3] at A3 st3
    have ge_b3 : n0 ≤ b3 := Nat.le_trans Z0 (Nat.le_of_eq g3.symm)
    have sz_b3 : h0.size ≤ b3 := Nat.le_trans (Keep.refl h0 []).1 (Nat.le_of_eq g3.symm)
    have K3 : Keep h0 h3 [] := (Keep.refl h0 []).ext E3
    have Z3 : n0 ≤ h3.size := Nat.le_trans Z0 E3.1
    have V3 : Arv Z h3 b3 k3 .long (19 : Int32) [(.long (0 : Int64)), (.long (0 : Int64)), (.long (0 : Int64)), (.long (0 : Int64)), (.long (0 : Int64)), (.long (0 : Int64)), (.long (0 : Int64)), (.long (0 : Int64)), (.long (0 : Int64)), (.long (0 : Int64)), (.long (0 : Int64)), (.long (0 : Int64)), (.long (0 : Int64)), (.long (0 : Int64)), (.long (0 : Int64)), (.long (0 : Int64)), (.long (0 : Int64)), (.long (0 : Int64)), (.long (0 : Int64))] (.long (0 : Int64)) := (Arv.new A3 (by decide)).pad (pad_rep [] (.long (0 : Int64)) 19)
    refine Goes.via st3 ?_
    show Goes p e below (T3.setTop (mkF m 24 #[.val (.long q1), .second, .val (.int p1), .unset, .unset, .unset] [(.ref b3)])) _
    refine Goes.via (fun t k => XS.dup X3.here hx rfl (hb hby d4_24) rfl rfl k) ?_
    show Goes p e below (T3.setTop (mkF m 25 #[.val (.long q1), .second, .val (.int p1), .unset, .unset, .unset] [(.ref b3), (.ref b3)])) _
    refine Goes.via (fun t k => XS.iconst X3.here hx rfl (hb hby d4_25) k) ?_
    show Goes p e below (T3.setTop (mkF m 26 #[.val (.long q1), .second, .val (.int p1), .unset, .unset, .unset] [(.int (0 : Int32)), (.ref b3), (.ref b3)])) _
    refine Goes.via (fun t k => XS.lconst X3.here hx rfl (hb hby d4_26) k) ?_
    show Goes p e below (T3.setTop (mkF m 27 #[.val (.long q1), .second, .val (.int p1), .unset, .unset, .unset] [(.long (1 : Int64)), (.int (0 : Int32)), (.ref b3), (.ref b3)])) _
    obtain ⟨cl4, Ar4, qa4, Sa4, Na4, Ha4, Ga4⟩ := V3
    have hin4 : ¬ ((0 : Int32) < 0 ∨ cl4.slots.size ≤ ((0 : Int32)).toNatClampNeg) := inb_of Sa4 ⟨by decide, by decide⟩
    obtain ⟨T4, h4, X4, e4, W4, st4⟩ := stJ X3 hx hZ e3 Ar4 (j := (0 : Int32)) hin4 (g := (mkF m 27 #[.val (.long q1), .second, .val (.int p1), .unset, .unset, .unset] [(.long (1 : Int64)), (.int (0 : Int32)), (.ref b3), (.ref b3)])) rfl rfl (hb hby d4_27)
    have V4 : Arv Z h4 b3 k3 .long (19 : Int32) [(.long (1 : Int64)), (.long (0 : Int64)), (.long (0 : Int64)), (.long (0 : Int64)), (.long (0 : Int64)), (.long (0 : Int64)), (.long (0 : Int64)), (.long (0 : Int64)), (.long (0 : Int64)), (.long (0 : Int64)), (.long (0 : Int64)), (.long (0 : Int64)), (.long (0 : Int64)), (.long (0 : Int64)), (.long (0 : Int64)), (.long (0 : Int64)), (.long (0 : Int64)), (.long (0 : Int64)), (.long (0 : Int64))] (.long (0 : Int64)) := Arv.set Ar4 qa4 Sa4 Na4 Ha4 Ga4 rfl W4 0 rfl (Nat.le_of_ble_eq_true rfl)
    have K4 : Keep h0 h4 [] := K3.wr W4 (Or.inr sz_b3)
    have Z4 : n0 ≤ h4.size := Nat.le_trans Z3 (Keep.of_wr W4).1
    have N4 := Fr.snoc X4 N0 ge_b3
    refine Goes.via st4 ?_
    show Goes p e below (T4.setTop (mkF m 28 #[.val (.long q1), .second, .val (.int p1), .unset, .unset, .unset] [(.ref b3)])) _
    refine Goes.via (fun t k => XS.dup X4.here hx rfl (hb hby d4_28) rfl rfl k) ?_
    show Goes p e below (T4.setTop (mkF m 29 #[.val (.long q1), .second, .val (.int p1), .unset, .unset, .unset] [(.ref b3), (.ref b3)])) _
    refine Goes.via (fun t k => XS.iconst X4.here hx rfl (hb hby d4_29) k) ?_
    show Goes p e below (T4.setTop (mkF m 30 #[.val (.long q1), .second, .val (.int p1), .unset, .unset, .unset] [(.int (1 : Int32)), (.ref b3), (.ref b3)])) _
    refine Goes.via (fun t k => X4.ldc2Long hx hown (mvT hZ (hw _ (List.mem_of_getElem? (i := 20) rfl))) (g := (mkF m 30 #[.val (.long q1), .second, .val (.int p1), .unset, .unset, .unset] [(.int (1 : Int32)), (.ref b3), (.ref b3)])) rfl (hb hby d4_30) _ k) ?_
    show Goes p e below (T4.setTop (mkF m 33 #[.val (.long q1), .second, .val (.int p1), .unset, .unset, .unset] [(.long (10 : Int64)), (.int (1 : Int32)), (.ref b3), (.ref b3)])) _
    obtain ⟨cl5, Ar5, qa5, Sa5, Na5, Ha5, Ga5⟩ := V4
    have hin5 : ¬ ((1 : Int32) < 0 ∨ cl5.slots.size ≤ ((1 : Int32)).toNatClampNeg) := inb_of Sa5 ⟨by decide, by decide⟩
    obtain ⟨T5, h5, X5, e5, W5, st5⟩ := stJ X4 hx hZ e4 Ar5 (j := (1 : Int32)) hin5 (g := (mkF m 33 #[.val (.long q1), .second, .val (.int p1), .unset, .unset, .unset] [(.long (10 : Int64)), (.int (1 : Int32)), (.ref b3), (.ref b3)])) rfl rfl (hb hby d4_33)
    have V5 : Arv Z h5 b3 k3 .long (19 : Int32) [(.long (1 : Int64)), (.long (10 : Int64)), (.long (0 : Int64)), (.long (0 : Int64)), (.long (0 : Int64)), (.long (0 : Int64)), (.long (0 : Int64)), (.long (0 : Int64)), (.long (0 : Int64)), (.long (0 : Int64)), (.long (0 : Int64)), (.long (0 : Int64)), (.long (0 : Int64)), (.long (0 : Int64)), (.long (0 : Int64)), (.long (0 : Int64)), (.long (0 : Int64)), (.long (0 : Int64)), (.long (0 : Int64))] (.long (0 : Int64)) := Arv.set Ar5 qa5 Sa5 Na5 Ha5 Ga5 rfl W5 1 rfl (Nat.le_of_ble_eq_true rfl)
    have K5 : Keep h0 h5 [] := K4.wr W5 (Or.inr sz_b3)
    have Z5 : n0 ≤ h5.size := Nat.le_trans Z4 (Keep.of_wr W5).1
    have N5 := Fr.snoc X5 N4 ge_b3
    refine Goes.via st5 ?_
    show Goes p e below (T5.setTop (mkF m 34 #[.val (.long q1), .second, .val (.int p1), .unset, .unset, .unset] [(.ref b3)])) _
    refine Goes.via (fun t k => XS.dup X5.here hx rfl (hb hby d4_34) rfl rfl k) ?_
    show Goes p e below (T5.setTop (mkF m 35 #[.val (.long q1), .second, .val (.int p1), .unset, .unset, .unset] [(.ref b3), (.ref b3)])) _
    refine Goes.via (fun t k => XS.iconst X5.here hx rfl (hb hby d4_35) k) ?_
    show Goes p e below (T5.setTop (mkF m 36 #[.val (.long q1), .second, .val (.int p1), .unset, .unset, .unset] [(.int (2 : Int32)), (.ref b3), (.ref b3)])) _
    refine Goes.via (fun t k => X5.ldc2Long hx hown (mvT hZ (hw _ (List.mem_of_getElem? (i := 21) rfl))) (g := (mkF m 36 #[.val (.long q1), .second, .val (.int p1), .unset, .unset, .unset] [(.int (2 : Int32)), (.ref b3), (.ref b3)])) rfl (hb hby d4_36) _ k) ?_
    show Goes p e below (T5.setTop (mkF m 39 #[.val (.long q1), .second, .val (.int p1), .unset, .unset, .unset] [(.long (100 : Int64)), (.int (2 : Int32)), (.ref b3), (.ref b3)])) _
    obtain ⟨cl6, Ar6, qa6, Sa6, Na6, Ha6, Ga6⟩ := V5
    have hin6 : ¬ ((2 : Int32) < 0 ∨ cl6.slots.size ≤ ((2 : Int32)).toNatClampNeg) := inb_of Sa6 ⟨by decide, by decide⟩
    obtain ⟨T6, h6, X6, e6, W6, st6⟩ := stJ X5 hx hZ e5 Ar6 (j := (2 : Int32)) hin6 (g := (mkF m 39 #[.val (.long q1), .second, .val (.int p1), .unset, .unset, .unset] [(.long (100 : Int64)), (.int (2 : Int32)), (.ref b3), (.ref b3)])) rfl rfl (hb hby d4_39)
    have V6 : Arv Z h6 b3 k3 .long (19 : Int32) [(.long (1 : Int64)), (.long (10 : Int64)), (.long (100 : Int64)), (.long (0 : Int64)), (.long (0 : Int64)), (.long (0 : Int64)), (.long (0 : Int64)), (.long (0 : Int64)), (.long (0 : Int64)), (.long (0 : Int64)), (.long (0 : Int64)), (.long (0 : Int64)), (.long (0 : Int64)), (.long (0 : Int64)), (.long (0 : Int64)), (.long (0 : Int64)), (.long (0 : Int64)), (.long (0 : Int64)), (.long (0 : Int64))] (.long (0 : Int64)) := Arv.set Ar6 qa6 Sa6 Na6 Ha6 Ga6 rfl W6 2 rfl (Nat.le_of_ble_eq_true rfl)
    have K6 : Keep h0 h6 [] := K5.wr W6 (Or.inr sz_b3)
    have Z6 : n0 ≤ h6.size := Nat.le_trans Z5 (Keep.of_wr W6).1
    have N6 := Fr.snoc X6 N5 ge_b3
    refine Goes.via st6 ?_
    show Goes p e below (T6.setTop (mkF m 40 #[.val (.long q1), .second, .val (.int p1), .unset, .unset, .unset] [(.ref b3)])) _
    refine Goes.via (fun t k => XS.dup X6.here hx rfl (hb hby d4_40) rfl rfl k) ?_
    show Goes p e below (T6.setTop (mkF m 41 #[.val (.long q1), .second, .val (.int p1), .unset, .unset, .unset] [(.ref b3), (.ref b3)])) _
    refine Goes.via (fun t k => XS.iconst X6.here hx rfl (hb hby d4_41) k) ?_
    show Goes p e below (T6.setTop (mkF m 42 #[.val (.long q1), .second, .val (.int p1), .unset, .unset, .unset] [(.int (3 : Int32)), (.ref b3), (.ref b3)])) _
    refine Goes.via (fun t k => X6.ldc2Long hx hown (mvT hZ (hw _ (List.mem_of_getElem? (i := 22) rfl))) (g := (mkF m 42 #[.val (.long q1), .second, .val (.int p1), .unset, .unset, .unset] [(.int (3 : Int32)), (.ref b3), (.ref b3)])) rfl (hb hby d4_42) _ k) ?_
    show Goes p e below (T6.setTop (mkF m 45 #[.val (.long q1), .second, .val (.int p1), .unset, .unset, .unset] [(.long (1000 : Int64)), (.int (3 : Int32)), (.ref b3), (.ref b3)])) _
    obtain ⟨cl7, Ar7, qa7, Sa7, Na7, Ha7, Ga7⟩ := V6
    have hin7 : ¬ ((3 : Int32) < 0 ∨ cl7.slots.size ≤ ((3 : Int32)).toNatClampNeg) := inb_of Sa7 ⟨by decide, by decide⟩
    obtain ⟨T7, h7, X7, e7, W7, st7⟩ := stJ X6 hx hZ e6 Ar7 (j := (3 : Int32)) hin7 (g := (mkF m 45 #[.val (.long q1), .second, .val (.int p1), .unset, .unset, .unset] [(.long (1000 : Int64)), (.int (3 : Int32)), (.ref b3), (.ref b3)])) rfl rfl (hb hby d4_45)
    have V7 : Arv Z h7 b3 k3 .long (19 : Int32) [(.long (1 : Int64)), (.long (10 : Int64)), (.long (100 : Int64)), (.long (1000 : Int64)), (.long (0 : Int64)), (.long (0 : Int64)), (.long (0 : Int64)), (.long (0 : Int64)), (.long (0 : Int64)), (.long (0 : Int64)), (.long (0 : Int64)), (.long (0 : Int64)), (.long (0 : Int64)), (.long (0 : Int64)), (.long (0 : Int64)), (.long (0 : Int64)), (.long (0 : Int64)), (.long (0 : Int64)), (.long (0 : Int64))] (.long (0 : Int64)) := Arv.set Ar7 qa7 Sa7 Na7 Ha7 Ga7 rfl W7 3 rfl (Nat.le_of_ble_eq_true rfl)
    have K7 : Keep h0 h7 [] := K6.wr W7 (Or.inr sz_b3)
    have Z7 : n0 ≤ h7.size := Nat.le_trans Z6 (Keep.of_wr W7).1
    have N7 := Fr.snoc X7 N6 ge_b3
    refine Goes.via st7 ?_
    show Goes p e below (T7.setTop (mkF m 46 #[.val (.long q1), .second, .val (.int p1), .unset, .unset, .unset] [(.ref b3)])) _
    refine Goes.via (fun t k => XS.dup X7.here hx rfl (hb hby d4_46) rfl rfl k) ?_
    show Goes p e below (T7.setTop (mkF m 47 #[.val (.long q1), .second, .val (.int p1), .unset, .unset, .unset] [(.ref b3), (.ref b3)])) _
    refine Goes.via (fun t k => XS.iconst X7.here hx rfl (hb hby d4_47) k) ?_
    show Goes p e below (T7.setTop (mkF m 48 #[.val (.long q1), .second, .val (.int p1), .unset, .unset, .unset] [(.int (4 : Int32)), (.ref b3), (.ref b3)])) _
    refine Goes.via (fun t k => X7.ldc2Long hx hown (mvT hZ (hw _ (List.mem_of_getElem? (i := 23) rfl))) (g := (mkF m 48 #[.val (.long q1), .second, .val (.int p1), .unset, .unset, .unset] [(.int (4 : Int32)), (.ref b3), (.ref b3)])) rfl (hb hby d4_48) _ k) ?_
    show Goes p e below (T7.setTop (mkF m 51 #[.val (.long q1), .second, .val (.int p1), .unset, .unset, .unset] [(.long (10000 : Int64)), (.int (4 : Int32)), (.ref b3), (.ref b3)])) _
    obtain ⟨cl8, Ar8, qa8, Sa8, Na8, Ha8, Ga8⟩ := V7
    have hin8 : ¬ ((4 : Int32) < 0 ∨ cl8.slots.size ≤ ((4 : Int32)).toNatClampNeg) := inb_of Sa8 ⟨by decide, by decide⟩
    obtain ⟨T8, h8, X8, e8, W8, st8⟩ := stJ X7 hx hZ e7 Ar8 (j := (4 : Int32)) hin8 (g := (mkF m 51 #[.val (.long q1), .second, .val (.int p1), .unset, .unset, .unset] [(.long (10000 : Int64)), (.int (4 : Int32)), (.ref b3), (.ref b3)])) rfl rfl (hb hby d4_51)
    have V8 : Arv Z h8 b3 k3 .long (19 : Int32) [(.long (1 : Int64)), (.long (10 : Int64)), (.long (100 : Int64)), (.long (1000 : Int64)), (.long (10000 : Int64)), (.long (0 : Int64)), (.long (0 : Int64)), (.long (0 : Int64)), (.long (0 : Int64)), (.long (0 : Int64)), (.long (0 : Int64)), (.long (0 : Int64)), (.long (0 : Int64)), (.long (0 : Int64)), (.long (0 : Int64)), (.long (0 : Int64)), (.long (0 : Int64)), (.long (0 : Int64)), (.long (0 : Int64))] (.long (0 : Int64)) := Arv.set Ar8 qa8 Sa8 Na8 Ha8 Ga8 rfl W8 4 rfl (Nat.le_of_ble_eq_true rfl)
    have K8 : Keep h0 h8 [] := K7.wr W8 (Or.inr sz_b3)
    have Z8 : n0 ≤ h8.size := Nat.le_trans Z7 (Keep.of_wr W8).1
    have N8 := Fr.snoc X8 N7 ge_b3
    refine Goes.via st8 ?_
    show Goes p e below (T8.setTop (mkF m 52 #[.val (.long q1), .second, .val (.int p1), .unset, .unset, .unset] [(.ref b3)])) _
    refine Goes.via (fun t k => XS.dup X8.here hx rfl (hb hby d4_52) rfl rfl k) ?_
    show Goes p e below (T8.setTop (mkF m 53 #[.val (.long q1), .second, .val (.int p1), .unset, .unset, .unset] [(.ref b3), (.ref b3)])) _
    refine Goes.via (fun t k => XS.iconst X8.here hx rfl (hb hby d4_53) k) ?_
    show Goes p e below (T8.setTop (mkF m 54 #[.val (.long q1), .second, .val (.int p1), .unset, .unset, .unset] [(.int (5 : Int32)), (.ref b3), (.ref b3)])) _
    refine Goes.via (fun t k => X8.ldc2Long hx hown (mvT hZ (hw _ (List.mem_of_getElem? (i := 24) rfl))) (g := (mkF m 54 #[.val (.long q1), .second, .val (.int p1), .unset, .unset, .unset] [(.int (5 : Int32)), (.ref b3), (.ref b3)])) rfl (hb hby d4_54) _ k) ?_
    show Goes p e below (T8.setTop (mkF m 57 #[.val (.long q1), .second, .val (.int p1), .unset, .unset, .unset] [(.long (100000 : Int64)), (.int (5 : Int32)), (.ref b3), (.ref b3)])) _
    obtain ⟨cl9, Ar9, qa9, Sa9, Na9, Ha9, Ga9⟩ := V8
    have hin9 : ¬ ((5 : Int32) < 0 ∨ cl9.slots.size ≤ ((5 : Int32)).toNatClampNeg) := inb_of Sa9 ⟨by decide, by decide⟩
    obtain ⟨T9, h9, X9, e9, W9, st9⟩ := stJ X8 hx hZ e8 Ar9 (j := (5 : Int32)) hin9 (g := (mkF m 57 #[.val (.long q1), .second, .val (.int p1), .unset, .unset, .unset] [(.long (100000 : Int64)), (.int (5 : Int32)), (.ref b3), (.ref b3)])) rfl rfl (hb hby d4_57)
    have V9 : Arv Z h9 b3 k3 .long (19 : Int32) [(.long (1 : Int64)), (.long (10 : Int64)), (.long (100 : Int64)), (.long (1000 : Int64)), (.long (10000 : Int64)), (.long (100000 : Int64)), (.long (0 : Int64)), (.long (0 : Int64)), (.long (0 : Int64)), (.long (0 : Int64)), (.long (0 : Int64)), (.long (0 : Int64)), (.long (0 : Int64)), (.long (0 : Int64)), (.long (0 : Int64)), (.long (0 : Int64)), (.long (0 : Int64)), (.long (0 : Int64)), (.long (0 : Int64))] (.long (0 : Int64)) := Arv.set Ar9 qa9 Sa9 Na9 Ha9 Ga9 rfl W9 5 rfl (Nat.le_of_ble_eq_true rfl)
    have K9 : Keep h0 h9 [] := K8.wr W9 (Or.inr sz_b3)
    have Z9 : n0 ≤ h9.size := Nat.le_trans Z8 (Keep.of_wr W9).1
    have N9 := Fr.snoc X9 N8 ge_b3
    refine Goes.via st9 ?_
    show Goes p e below (T9.setTop (mkF m 58 #[.val (.long q1), .second, .val (.int p1), .unset, .unset, .unset] [(.ref b3)])) _
    refine Goes.via (fun t k => XS.dup X9.here hx rfl (hb hby d4_58) rfl rfl k) ?_
    show Goes p e below (T9.setTop (mkF m 59 #[.val (.long q1), .second, .val (.int p1), .unset, .unset, .unset] [(.ref b3), (.ref b3)])) _
    refine Goes.via (fun t k => XS.bipush X9.here hx rfl (hb hby d4_59) k) ?_
    show Goes p e below (T9.setTop (mkF m 61 #[.val (.long q1), .second, .val (.int p1), .unset, .unset, .unset] [(.int (6 : Int32)), (.ref b3), (.ref b3)])) _
    refine Goes.via (fun t k => X9.ldc2Long hx hown (mvT hZ (hw _ (List.mem_of_getElem? (i := 25) rfl))) (g := (mkF m 61 #[.val (.long q1), .second, .val (.int p1), .unset, .unset, .unset] [(.int (6 : Int32)), (.ref b3), (.ref b3)])) rfl (hb hby d4_61) _ k) ?_
    show Goes p e below (T9.setTop (mkF m 64 #[.val (.long q1), .second, .val (.int p1), .unset, .unset, .unset] [(.long (1000000 : Int64)), (.int (6 : Int32)), (.ref b3), (.ref b3)])) _
    obtain ⟨cl10, Ar10, qa10, Sa10, Na10, Ha10, Ga10⟩ := V9
    have hin10 : ¬ ((6 : Int32) < 0 ∨ cl10.slots.size ≤ ((6 : Int32)).toNatClampNeg) := inb_of Sa10 ⟨by decide, by decide⟩
    obtain ⟨T10, h10, X10, e10, W10, st10⟩ := stJ X9 hx hZ e9 Ar10 (j := (6 : Int32)) hin10 (g := (mkF m 64 #[.val (.long q1), .second, .val (.int p1), .unset, .unset, .unset] [(.long (1000000 : Int64)), (.int (6 : Int32)), (.ref b3), (.ref b3)])) rfl rfl (hb hby d4_64)
    have V10 : Arv Z h10 b3 k3 .long (19 : Int32) [(.long (1 : Int64)), (.long (10 : Int64)), (.long (100 : Int64)), (.long (1000 : Int64)), (.long (10000 : Int64)), (.long (100000 : Int64)), (.long (1000000 : Int64)), (.long (0 : Int64)), (.long (0 : Int64)), (.long (0 : Int64)), (.long (0 : Int64)), (.long (0 : Int64)), (.long (0 : Int64)), (.long (0 : Int64)), (.long (0 : Int64)), (.long (0 : Int64)), (.long (0 : Int64)), (.long (0 : Int64)), (.long (0 : Int64))] (.long (0 : Int64)) := Arv.set Ar10 qa10 Sa10 Na10 Ha10 Ga10 rfl W10 6 rfl (Nat.le_of_ble_eq_true rfl)
    have K10 : Keep h0 h10 [] := K9.wr W10 (Or.inr sz_b3)
    have Z10 : n0 ≤ h10.size := Nat.le_trans Z9 (Keep.of_wr W10).1
    have N10 := Fr.snoc X10 N9 ge_b3
    refine Goes.via st10 ?_
    show Goes p e below (T10.setTop (mkF m 65 #[.val (.long q1), .second, .val (.int p1), .unset, .unset, .unset] [(.ref b3)])) _
    refine Goes.via (fun t k => XS.dup X10.here hx rfl (hb hby d4_65) rfl rfl k) ?_
    show Goes p e below (T10.setTop (mkF m 66 #[.val (.long q1), .second, .val (.int p1), .unset, .unset, .unset] [(.ref b3), (.ref b3)])) _
    refine Goes.via (fun t k => XS.bipush X10.here hx rfl (hb hby d4_66) k) ?_
    show Goes p e below (T10.setTop (mkF m 68 #[.val (.long q1), .second, .val (.int p1), .unset, .unset, .unset] [(.int (7 : Int32)), (.ref b3), (.ref b3)])) _
    refine Goes.via (fun t k => X10.ldc2Long hx hown (mvT hZ (hw _ (List.mem_of_getElem? (i := 26) rfl))) (g := (mkF m 68 #[.val (.long q1), .second, .val (.int p1), .unset, .unset, .unset] [(.int (7 : Int32)), (.ref b3), (.ref b3)])) rfl (hb hby d4_68) _ k) ?_
    show Goes p e below (T10.setTop (mkF m 71 #[.val (.long q1), .second, .val (.int p1), .unset, .unset, .unset] [(.long (10000000 : Int64)), (.int (7 : Int32)), (.ref b3), (.ref b3)])) _
    obtain ⟨cl11, Ar11, qa11, Sa11, Na11, Ha11, Ga11⟩ := V10
    have hin11 : ¬ ((7 : Int32) < 0 ∨ cl11.slots.size ≤ ((7 : Int32)).toNatClampNeg) := inb_of Sa11 ⟨by decide, by decide⟩
    obtain ⟨T11, h11, X11, e11, W11, st11⟩ := stJ X10 hx hZ e10 Ar11 (j := (7 : Int32)) hin11 (g := (mkF m 71 #[.val (.long q1), .second, .val (.int p1), .unset, .unset, .unset] [(.long (10000000 : Int64)), (.int (7 : Int32)), (.ref b3), (.ref b3)])) rfl rfl (hb hby d4_71)
    have V11 : Arv Z h11 b3 k3 .long (19 : Int32) [(.long (1 : Int64)), (.long (10 : Int64)), (.long (100 : Int64)), (.long (1000 : Int64)), (.long (10000 : Int64)), (.long (100000 : Int64)), (.long (1000000 : Int64)), (.long (10000000 : Int64)), (.long (0 : Int64)), (.long (0 : Int64)), (.long (0 : Int64)), (.long (0 : Int64)), (.long (0 : Int64)), (.long (0 : Int64)), (.long (0 : Int64)), (.long (0 : Int64)), (.long (0 : Int64)), (.long (0 : Int64)), (.long (0 : Int64))] (.long (0 : Int64)) := Arv.set Ar11 qa11 Sa11 Na11 Ha11 Ga11 rfl W11 7 rfl (Nat.le_of_ble_eq_true rfl)
    have K11 : Keep h0 h11 [] := K10.wr W11 (Or.inr sz_b3)
    have Z11 : n0 ≤ h11.size := Nat.le_trans Z10 (Keep.of_wr W11).1
    have N11 := Fr.snoc X11 N10 ge_b3
    refine Goes.via st11 ?_
    show Goes p e below (T11.setTop (mkF m 72 #[.val (.long q1), .second, .val (.int p1), .unset, .unset, .unset] [(.ref b3)])) _
    refine Goes.via (fun t k => XS.dup X11.here hx rfl (hb hby d4_72) rfl rfl k) ?_
    show Goes p e below (T11.setTop (mkF m 73 #[.val (.long q1), .second, .val (.int p1), .unset, .unset, .unset] [(.ref b3), (.ref b3)])) _
    refine Goes.via (fun t k => XS.bipush X11.here hx rfl (hb hby d4_73) k) ?_
    show Goes p e below (T11.setTop (mkF m 75 #[.val (.long q1), .second, .val (.int p1), .unset, .unset, .unset] [(.int (8 : Int32)), (.ref b3), (.ref b3)])) _
    refine Goes.via (fun t k => X11.ldc2Long hx hown (mvT hZ (hw _ (List.mem_of_getElem? (i := 27) rfl))) (g := (mkF m 75 #[.val (.long q1), .second, .val (.int p1), .unset, .unset, .unset] [(.int (8 : Int32)), (.ref b3), (.ref b3)])) rfl (hb hby d4_75) _ k) ?_
    show Goes p e below (T11.setTop (mkF m 78 #[.val (.long q1), .second, .val (.int p1), .unset, .unset, .unset] [(.long (100000000 : Int64)), (.int (8 : Int32)), (.ref b3), (.ref b3)])) _
    obtain ⟨cl12, Ar12, qa12, Sa12, Na12, Ha12, Ga12⟩ := V11
    have hin12 : ¬ ((8 : Int32) < 0 ∨ cl12.slots.size ≤ ((8 : Int32)).toNatClampNeg) := inb_of Sa12 ⟨by decide, by decide⟩
    obtain ⟨T12, h12, X12, e12, W12, st12⟩ := stJ X11 hx hZ e11 Ar12 (j := (8 : Int32)) hin12 (g := (mkF m 78 #[.val (.long q1), .second, .val (.int p1), .unset, .unset, .unset] [(.long (100000000 : Int64)), (.int (8 : Int32)), (.ref b3), (.ref b3)])) rfl rfl (hb hby d4_78)
    have V12 : Arv Z h12 b3 k3 .long (19 : Int32) [(.long (1 : Int64)), (.long (10 : Int64)), (.long (100 : Int64)), (.long (1000 : Int64)), (.long (10000 : Int64)), (.long (100000 : Int64)), (.long (1000000 : Int64)), (.long (10000000 : Int64)), (.long (100000000 : Int64)), (.long (0 : Int64)), (.long (0 : Int64)), (.long (0 : Int64)), (.long (0 : Int64)), (.long (0 : Int64)), (.long (0 : Int64)), (.long (0 : Int64)), (.long (0 : Int64)), (.long (0 : Int64)), (.long (0 : Int64))] (.long (0 : Int64)) := Arv.set Ar12 qa12 Sa12 Na12 Ha12 Ga12 rfl W12 8 rfl (Nat.le_of_ble_eq_true rfl)
    have K12 : Keep h0 h12 [] := K11.wr W12 (Or.inr sz_b3)
    have Z12 : n0 ≤ h12.size := Nat.le_trans Z11 (Keep.of_wr W12).1
    have N12 := Fr.snoc X12 N11 ge_b3
    refine Goes.via st12 ?_
    show Goes p e below (T12.setTop (mkF m 79 #[.val (.long q1), .second, .val (.int p1), .unset, .unset, .unset] [(.ref b3)])) _
    refine Goes.via (fun t k => XS.dup X12.here hx rfl (hb hby d4_79) rfl rfl k) ?_
    show Goes p e below (T12.setTop (mkF m 80 #[.val (.long q1), .second, .val (.int p1), .unset, .unset, .unset] [(.ref b3), (.ref b3)])) _
    refine Goes.via (fun t k => XS.bipush X12.here hx rfl (hb hby d4_80) k) ?_
    show Goes p e below (T12.setTop (mkF m 82 #[.val (.long q1), .second, .val (.int p1), .unset, .unset, .unset] [(.int (9 : Int32)), (.ref b3), (.ref b3)])) _
    refine Goes.via (fun t k => X12.ldc2Long hx hown (mvT hZ (hw _ (List.mem_of_getElem? (i := 28) rfl))) (g := (mkF m 82 #[.val (.long q1), .second, .val (.int p1), .unset, .unset, .unset] [(.int (9 : Int32)), (.ref b3), (.ref b3)])) rfl (hb hby d4_82) _ k) ?_
    show Goes p e below (T12.setTop (mkF m 85 #[.val (.long q1), .second, .val (.int p1), .unset, .unset, .unset] [(.long (1000000000 : Int64)), (.int (9 : Int32)), (.ref b3), (.ref b3)])) _
    obtain ⟨cl13, Ar13, qa13, Sa13, Na13, Ha13, Ga13⟩ := V12
    have hin13 : ¬ ((9 : Int32) < 0 ∨ cl13.slots.size ≤ ((9 : Int32)).toNatClampNeg) := inb_of Sa13 ⟨by decide, by decide⟩
    obtain ⟨T13, h13, X13, e13, W13, st13⟩ := stJ X12 hx hZ e12 Ar13 (j := (9 : Int32)) hin13 (g := (mkF m 85 #[.val (.long q1), .second, .val (.int p1), .unset, .unset, .unset] [(.long (1000000000 : Int64)), (.int (9 : Int32)), (.ref b3), (.ref b3)])) rfl rfl (hb hby d4_85)
    have V13 : Arv Z h13 b3 k3 .long (19 : Int32) [(.long (1 : Int64)), (.long (10 : Int64)), (.long (100 : Int64)), (.long (1000 : Int64)), (.long (10000 : Int64)), (.long (100000 : Int64)), (.long (1000000 : Int64)), (.long (10000000 : Int64)), (.long (100000000 : Int64)), (.long (1000000000 : Int64)), (.long (0 : Int64)), (.long (0 : Int64)), (.long (0 : Int64)), (.long (0 : Int64)), (.long (0 : Int64)), (.long (0 : Int64)), (.long (0 : Int64)), (.long (0 : Int64)), (.long (0 : Int64))] (.long (0 : Int64)) := Arv.set Ar13 qa13 Sa13 Na13 Ha13 Ga13 rfl W13 9 rfl (Nat.le_of_ble_eq_true rfl)
    have K13 : Keep h0 h13 [] := K12.wr W13 (Or.inr sz_b3)
    have Z13 : n0 ≤ h13.size := Nat.le_trans Z12 (Keep.of_wr W13).1
    have N13 := Fr.snoc X13 N12 ge_b3
    refine Goes.via st13 ?_
    show Goes p e below (T13.setTop (mkF m 86 #[.val (.long q1), .second, .val (.int p1), .unset, .unset, .unset] [(.ref b3)])) _
    refine Goes.via (fun t k => XS.dup X13.here hx rfl (hb hby d4_86) rfl rfl k) ?_
    show Goes p e below (T13.setTop (mkF m 87 #[.val (.long q1), .second, .val (.int p1), .unset, .unset, .unset] [(.ref b3), (.ref b3)])) _
    refine Goes.via (fun t k => XS.bipush X13.here hx rfl (hb hby d4_87) k) ?_
    show Goes p e below (T13.setTop (mkF m 89 #[.val (.long q1), .second, .val (.int p1), .unset, .unset, .unset] [(.int (10 : Int32)), (.ref b3), (.ref b3)])) _
    refine Goes.via (fun t k => X13.ldc2Long hx hown (mvT hZ (hw _ (List.mem_of_getElem? (i := 29) rfl))) (g := (mkF m 89 #[.val (.long q1), .second, .val (.int p1), .unset, .unset, .unset] [(.int (10 : Int32)), (.ref b3), (.ref b3)])) rfl (hb hby d4_89) _ k) ?_
    show Goes p e below (T13.setTop (mkF m 92 #[.val (.long q1), .second, .val (.int p1), .unset, .unset, .unset] [(.long (10000000000 : Int64)), (.int (10 : Int32)), (.ref b3), (.ref b3)])) _
    obtain ⟨cl14, Ar14, qa14, Sa14, Na14, Ha14, Ga14⟩ := V13
    have hin14 : ¬ ((10 : Int32) < 0 ∨ cl14.slots.size ≤ ((10 : Int32)).toNatClampNeg) := inb_of Sa14 ⟨by decide, by decide⟩
    obtain ⟨T14, h14, X14, e14, W14, st14⟩ := stJ X13 hx hZ e13 Ar14 (j := (10 : Int32)) hin14 (g := (mkF m 92 #[.val (.long q1), .second, .val (.int p1), .unset, .unset, .unset] [(.long (10000000000 : Int64)), (.int (10 : Int32)), (.ref b3), (.ref b3)])) rfl rfl (hb hby d4_92)
    have V14 : Arv Z h14 b3 k3 .long (19 : Int32) [(.long (1 : Int64)), (.long (10 : Int64)), (.long (100 : Int64)), (.long (1000 : Int64)), (.long (10000 : Int64)), (.long (100000 : Int64)), (.long (1000000 : Int64)), (.long (10000000 : Int64)), (.long (100000000 : Int64)), (.long (1000000000 : Int64)), (.long (10000000000 : Int64)), (.long (0 : Int64)), (.long (0 : Int64)), (.long (0 : Int64)), (.long (0 : Int64)), (.long (0 : Int64)), (.long (0 : Int64)), (.long (0 : Int64)), (.long (0 : Int64))] (.long (0 : Int64)) := Arv.set Ar14 qa14 Sa14 Na14 Ha14 Ga14 rfl W14 10 rfl (Nat.le_of_ble_eq_true rfl)
    have K14 : Keep h0 h14 [] := K13.wr W14 (Or.inr sz_b3)
    have Z14 : n0 ≤ h14.size := Nat.le_trans Z13 (Keep.of_wr W14).1
    have N14 := Fr.snoc X14 N13 ge_b3
    refine Goes.via st14 ?_
    show Goes p e below (T14.setTop (mkF m 93 #[.val (.long q1), .second, .val (.int p1), .unset, .unset, .unset] [(.ref b3)])) _
    refine Goes.via (fun t k => XS.dup X14.here hx rfl (hb hby d4_93) rfl rfl k) ?_
    show Goes p e below (T14.setTop (mkF m 94 #[.val (.long q1), .second, .val (.int p1), .unset, .unset, .unset] [(.ref b3), (.ref b3)])) _
    refine Goes.via (fun t k => XS.bipush X14.here hx rfl (hb hby d4_94) k) ?_
    show Goes p e below (T14.setTop (mkF m 96 #[.val (.long q1), .second, .val (.int p1), .unset, .unset, .unset] [(.int (11 : Int32)), (.ref b3), (.ref b3)])) _
    refine Goes.via (fun t k => X14.ldc2Long hx hown (mvT hZ (hw _ (List.mem_of_getElem? (i := 30) rfl))) (g := (mkF m 96 #[.val (.long q1), .second, .val (.int p1), .unset, .unset, .unset] [(.int (11 : Int32)), (.ref b3), (.ref b3)])) rfl (hb hby d4_96) _ k) ?_
    show Goes p e below (T14.setTop (mkF m 99 #[.val (.long q1), .second, .val (.int p1), .unset, .unset, .unset] [(.long (100000000000 : Int64)), (.int (11 : Int32)), (.ref b3), (.ref b3)])) _
    obtain ⟨cl15, Ar15, qa15, Sa15, Na15, Ha15, Ga15⟩ := V14
    have hin15 : ¬ ((11 : Int32) < 0 ∨ cl15.slots.size ≤ ((11 : Int32)).toNatClampNeg) := inb_of Sa15 ⟨by decide, by decide⟩
    obtain ⟨T15, h15, X15, e15, W15, st15⟩ := stJ X14 hx hZ e14 Ar15 (j := (11 : Int32)) hin15 (g := (mkF m 99 #[.val (.long q1), .second, .val (.int p1), .unset, .unset, .unset] [(.long (100000000000 : Int64)), (.int (11 : Int32)), (.ref b3), (.ref b3)])) rfl rfl (hb hby d4_99)
    have V15 : Arv Z h15 b3 k3 .long (19 : Int32) [(.long (1 : Int64)), (.long (10 : Int64)), (.long (100 : Int64)), (.long (1000 : Int64)), (.long (10000 : Int64)), (.long (100000 : Int64)), (.long (1000000 : Int64)), (.long (10000000 : Int64)), (.long (100000000 : Int64)), (.long (1000000000 : Int64)), (.long (10000000000 : Int64)), (.long (100000000000 : Int64)), (.long (0 : Int64)), (.long (0 : Int64)), (.long (0 : Int64)), (.long (0 : Int64)), (.long (0 : Int64)), (.long (0 : Int64)), (.long (0 : Int64))] (.long (0 : Int64)) := Arv.set Ar15 qa15 Sa15 Na15 Ha15 Ga15 rfl W15 11 rfl (Nat.le_of_ble_eq_true rfl)
    have K15 : Keep h0 h15 [] := K14.wr W15 (Or.inr sz_b3)
    have Z15 : n0 ≤ h15.size := Nat.le_trans Z14 (Keep.of_wr W15).1
    have N15 := Fr.snoc X15 N14 ge_b3
    refine Goes.via st15 ?_
    show Goes p e below (T15.setTop (mkF m 100 #[.val (.long q1), .second, .val (.int p1), .unset, .unset, .unset] [(.ref b3)])) _
    refine Goes.via (fun t k => XS.dup X15.here hx rfl (hb hby d4_100) rfl rfl k) ?_
    show Goes p e below (T15.setTop (mkF m 101 #[.val (.long q1), .second, .val (.int p1), .unset, .unset, .unset] [(.ref b3), (.ref b3)])) _
    refine Goes.via (fun t k => XS.bipush X15.here hx rfl (hb hby d4_101) k) ?_
    show Goes p e below (T15.setTop (mkF m 103 #[.val (.long q1), .second, .val (.int p1), .unset, .unset, .unset] [(.int (12 : Int32)), (.ref b3), (.ref b3)])) _
    refine Goes.via (fun t k => X15.ldc2Long hx hown (mvT hZ (hw _ (List.mem_of_getElem? (i := 31) rfl))) (g := (mkF m 103 #[.val (.long q1), .second, .val (.int p1), .unset, .unset, .unset] [(.int (12 : Int32)), (.ref b3), (.ref b3)])) rfl (hb hby d4_103) _ k) ?_
    show Goes p e below (T15.setTop (mkF m 106 #[.val (.long q1), .second, .val (.int p1), .unset, .unset, .unset] [(.long (1000000000000 : Int64)), (.int (12 : Int32)), (.ref b3), (.ref b3)])) _
    obtain ⟨cl16, Ar16, qa16, Sa16, Na16, Ha16, Ga16⟩ := V15
    have hin16 : ¬ ((12 : Int32) < 0 ∨ cl16.slots.size ≤ ((12 : Int32)).toNatClampNeg) := inb_of Sa16 ⟨by decide, by decide⟩
    obtain ⟨T16, h16, X16, e16, W16, st16⟩ := stJ X15 hx hZ e15 Ar16 (j := (12 : Int32)) hin16 (g := (mkF m 106 #[.val (.long q1), .second, .val (.int p1), .unset, .unset, .unset] [(.long (1000000000000 : Int64)), (.int (12 : Int32)), (.ref b3), (.ref b3)])) rfl rfl (hb hby d4_106)
    have V16 : Arv Z h16 b3 k3 .long (19 : Int32) [(.long (1 : Int64)), (.long (10 : Int64)), (.long (100 : Int64)), (.long (1000 : Int64)), (.long (10000 : Int64)), (.long (100000 : Int64)), (.long (1000000 : Int64)), (.long (10000000 : Int64)), (.long (100000000 : Int64)), (.long (1000000000 : Int64)), (.long (10000000000 : Int64)), (.long (100000000000 : Int64)), (.long (1000000000000 : Int64)), (.long (0 : Int64)), (.long (0 : Int64)), (.long (0 : Int64)), (.long (0 : Int64)), (.long (0 : Int64)), (.long (0 : Int64))] (.long (0 : Int64)) := Arv.set Ar16 qa16 Sa16 Na16 Ha16 Ga16 rfl W16 12 rfl (Nat.le_of_ble_eq_true rfl)
    have K16 : Keep h0 h16 [] := K15.wr W16 (Or.inr sz_b3)
    have Z16 : n0 ≤ h16.size := Nat.le_trans Z15 (Keep.of_wr W16).1
    have N16 := Fr.snoc X16 N15 ge_b3
    refine Goes.via st16 ?_
    show Goes p e below (T16.setTop (mkF m 107 #[.val (.long q1), .second, .val (.int p1), .unset, .unset, .unset] [(.ref b3)])) _
    refine Goes.via (fun t k => XS.dup X16.here hx rfl (hb hby d4_107) rfl rfl k) ?_
    show Goes p e below (T16.setTop (mkF m 108 #[.val (.long q1), .second, .val (.int p1), .unset, .unset, .unset] [(.ref b3), (.ref b3)])) _
    refine Goes.via (fun t k => XS.bipush X16.here hx rfl (hb hby d4_108) k) ?_
    show Goes p e below (T16.setTop (mkF m 110 #[.val (.long q1), .second, .val (.int p1), .unset, .unset, .unset] [(.int (13 : Int32)), (.ref b3), (.ref b3)])) _
    refine Goes.via (fun t k => X16.ldc2Long hx hown (mvT hZ (hw _ (List.mem_of_getElem? (i := 32) rfl))) (g := (mkF m 110 #[.val (.long q1), .second, .val (.int p1), .unset, .unset, .unset] [(.int (13 : Int32)), (.ref b3), (.ref b3)])) rfl (hb hby d4_110) _ k) ?_
    show Goes p e below (T16.setTop (mkF m 113 #[.val (.long q1), .second, .val (.int p1), .unset, .unset, .unset] [(.long (10000000000000 : Int64)), (.int (13 : Int32)), (.ref b3), (.ref b3)])) _
    obtain ⟨cl17, Ar17, qa17, Sa17, Na17, Ha17, Ga17⟩ := V16
    have hin17 : ¬ ((13 : Int32) < 0 ∨ cl17.slots.size ≤ ((13 : Int32)).toNatClampNeg) := inb_of Sa17 ⟨by decide, by decide⟩
    obtain ⟨T17, h17, X17, e17, W17, st17⟩ := stJ X16 hx hZ e16 Ar17 (j := (13 : Int32)) hin17 (g := (mkF m 113 #[.val (.long q1), .second, .val (.int p1), .unset, .unset, .unset] [(.long (10000000000000 : Int64)), (.int (13 : Int32)), (.ref b3), (.ref b3)])) rfl rfl (hb hby d4_113)
    have V17 : Arv Z h17 b3 k3 .long (19 : Int32) [(.long (1 : Int64)), (.long (10 : Int64)), (.long (100 : Int64)), (.long (1000 : Int64)), (.long (10000 : Int64)), (.long (100000 : Int64)), (.long (1000000 : Int64)), (.long (10000000 : Int64)), (.long (100000000 : Int64)), (.long (1000000000 : Int64)), (.long (10000000000 : Int64)), (.long (100000000000 : Int64)), (.long (1000000000000 : Int64)), (.long (10000000000000 : Int64)), (.long (0 : Int64)), (.long (0 : Int64)), (.long (0 : Int64)), (.long (0 : Int64)), (.long (0 : Int64))] (.long (0 : Int64)) := Arv.set Ar17 qa17 Sa17 Na17 Ha17 Ga17 rfl W17 13 rfl (Nat.le_of_ble_eq_true rfl)
    have K17 : Keep h0 h17 [] := K16.wr W17 (Or.inr sz_b3)
    have Z17 : n0 ≤ h17.size := Nat.le_trans Z16 (Keep.of_wr W17).1
    have N17 := Fr.snoc X17 N16 ge_b3
    refine Goes.via st17 ?_
    show Goes p e below (T17.setTop (mkF m 114 #[.val (.long q1), .second, .val (.int p1), .unset, .unset, .unset] [(.ref b3)])) _
    refine Goes.via (fun t k => XS.dup X17.here hx rfl (hb hby d4_114) rfl rfl k) ?_
    show Goes p e below (T17.setTop (mkF m 115 #[.val (.long q1), .second, .val (.int p1), .unset, .unset, .unset] [(.ref b3), (.ref b3)])) _
    refine Goes.via (fun t k => XS.bipush X17.here hx rfl (hb hby d4_115) k) ?_
    show Goes p e below (T17.setTop (mkF m 117 #[.val (.long q1), .second, .val (.int p1), .unset, .unset, .unset] [(.int (14 : Int32)), (.ref b3), (.ref b3)])) _
    refine Goes.via (fun t k => X17.ldc2Long hx hown (mvT hZ (hw _ (List.mem_of_getElem? (i := 33) rfl))) (g := (mkF m 117 #[.val (.long q1), .second, .val (.int p1), .unset, .unset, .unset] [(.int (14 : Int32)), (.ref b3), (.ref b3)])) rfl (hb hby d4_117) _ k) ?_
    show Goes p e below (T17.setTop (mkF m 120 #[.val (.long q1), .second, .val (.int p1), .unset, .unset, .unset] [(.long (100000000000000 : Int64)), (.int (14 : Int32)), (.ref b3), (.ref b3)])) _
    obtain ⟨cl18, Ar18, qa18, Sa18, Na18, Ha18, Ga18⟩ := V17
    have hin18 : ¬ ((14 : Int32) < 0 ∨ cl18.slots.size ≤ ((14 : Int32)).toNatClampNeg) := inb_of Sa18 ⟨by decide, by decide⟩
    obtain ⟨T18, h18, X18, e18, W18, st18⟩ := stJ X17 hx hZ e17 Ar18 (j := (14 : Int32)) hin18 (g := (mkF m 120 #[.val (.long q1), .second, .val (.int p1), .unset, .unset, .unset] [(.long (100000000000000 : Int64)), (.int (14 : Int32)), (.ref b3), (.ref b3)])) rfl rfl (hb hby d4_120)
    have V18 : Arv Z h18 b3 k3 .long (19 : Int32) [(.long (1 : Int64)), (.long (10 : Int64)), (.long (100 : Int64)), (.long (1000 : Int64)), (.long (10000 : Int64)), (.long (100000 : Int64)), (.long (1000000 : Int64)), (.long (10000000 : Int64)), (.long (100000000 : Int64)), (.long (1000000000 : Int64)), (.long (10000000000 : Int64)), (.long (100000000000 : Int64)), (.long (1000000000000 : Int64)), (.long (10000000000000 : Int64)), (.long (100000000000000 : Int64)), (.long (0 : Int64)), (.long (0 : Int64)), (.long (0 : Int64)), (.long (0 : Int64))] (.long (0 : Int64)) := Arv.set Ar18 qa18 Sa18 Na18 Ha18 Ga18 rfl W18 14 rfl (Nat.le_of_ble_eq_true rfl)
    have K18 : Keep h0 h18 [] := K17.wr W18 (Or.inr sz_b3)
    have Z18 : n0 ≤ h18.size := Nat.le_trans Z17 (Keep.of_wr W18).1
    have N18 := Fr.snoc X18 N17 ge_b3
    refine Goes.via st18 ?_
    show Goes p e below (T18.setTop (mkF m 121 #[.val (.long q1), .second, .val (.int p1), .unset, .unset, .unset] [(.ref b3)])) _
    refine Goes.via (fun t k => XS.dup X18.here hx rfl (hb hby d4_121) rfl rfl k) ?_
    show Goes p e below (T18.setTop (mkF m 122 #[.val (.long q1), .second, .val (.int p1), .unset, .unset, .unset] [(.ref b3), (.ref b3)])) _
    refine Goes.via (fun t k => XS.bipush X18.here hx rfl (hb hby d4_122) k) ?_
    show Goes p e below (T18.setTop (mkF m 124 #[.val (.long q1), .second, .val (.int p1), .unset, .unset, .unset] [(.int (15 : Int32)), (.ref b3), (.ref b3)])) _
    refine Goes.via (fun t k => X18.ldc2Long hx hown (mvT hZ (hw _ (List.mem_of_getElem? (i := 34) rfl))) (g := (mkF m 124 #[.val (.long q1), .second, .val (.int p1), .unset, .unset, .unset] [(.int (15 : Int32)), (.ref b3), (.ref b3)])) rfl (hb hby d4_124) _ k) ?_
    show Goes p e below (T18.setTop (mkF m 127 #[.val (.long q1), .second, .val (.int p1), .unset, .unset, .unset] [(.long (1000000000000000 : Int64)), (.int (15 : Int32)), (.ref b3), (.ref b3)])) _
    obtain ⟨cl19, Ar19, qa19, Sa19, Na19, Ha19, Ga19⟩ := V18
    have hin19 : ¬ ((15 : Int32) < 0 ∨ cl19.slots.size ≤ ((15 : Int32)).toNatClampNeg) := inb_of Sa19 ⟨by decide, by decide⟩
    obtain ⟨T19, h19, X19, e19, W19, st19⟩ := stJ X18 hx hZ e18 Ar19 (j := (15 : Int32)) hin19 (g := (mkF m 127 #[.val (.long q1), .second, .val (.int p1), .unset, .unset, .unset] [(.long (1000000000000000 : Int64)), (.int (15 : Int32)), (.ref b3), (.ref b3)])) rfl rfl (hb hby d4_127)
    have V19 : Arv Z h19 b3 k3 .long (19 : Int32) [(.long (1 : Int64)), (.long (10 : Int64)), (.long (100 : Int64)), (.long (1000 : Int64)), (.long (10000 : Int64)), (.long (100000 : Int64)), (.long (1000000 : Int64)), (.long (10000000 : Int64)), (.long (100000000 : Int64)), (.long (1000000000 : Int64)), (.long (10000000000 : Int64)), (.long (100000000000 : Int64)), (.long (1000000000000 : Int64)), (.long (10000000000000 : Int64)), (.long (100000000000000 : Int64)), (.long (1000000000000000 : Int64)), (.long (0 : Int64)), (.long (0 : Int64)), (.long (0 : Int64))] (.long (0 : Int64)) := Arv.set Ar19 qa19 Sa19 Na19 Ha19 Ga19 rfl W19 15 rfl (Nat.le_of_ble_eq_true rfl)
    have K19 : Keep h0 h19 [] := K18.wr W19 (Or.inr sz_b3)
    have Z19 : n0 ≤ h19.size := Nat.le_trans Z18 (Keep.of_wr W19).1
    have N19 := Fr.snoc X19 N18 ge_b3
    refine Goes.via st19 ?_
    show Goes p e below (T19.setTop (mkF m 128 #[.val (.long q1), .second, .val (.int p1), .unset, .unset, .unset] [(.ref b3)])) _
    refine Goes.via (fun t k => XS.dup X19.here hx rfl (hb hby d4_128) rfl rfl k) ?_
    show Goes p e below (T19.setTop (mkF m 129 #[.val (.long q1), .second, .val (.int p1), .unset, .unset, .unset] [(.ref b3), (.ref b3)])) _
    refine Goes.via (fun t k => XS.bipush X19.here hx rfl (hb hby d4_129) k) ?_
    show Goes p e below (T19.setTop (mkF m 131 #[.val (.long q1), .second, .val (.int p1), .unset, .unset, .unset] [(.int (16 : Int32)), (.ref b3), (.ref b3)])) _
    refine Goes.via (fun t k => X19.ldc2Long hx hown (mvT hZ (hw _ (List.mem_of_getElem? (i := 35) rfl))) (g := (mkF m 131 #[.val (.long q1), .second, .val (.int p1), .unset, .unset, .unset] [(.int (16 : Int32)), (.ref b3), (.ref b3)])) rfl (hb hby d4_131) _ k) ?_
    show Goes p e below (T19.setTop (mkF m 134 #[.val (.long q1), .second, .val (.int p1), .unset, .unset, .unset] [(.long (10000000000000000 : Int64)), (.int (16 : Int32)), (.ref b3), (.ref b3)])) _
    obtain ⟨cl20, Ar20, qa20, Sa20, Na20, Ha20, Ga20⟩ := V19
    have hin20 : ¬ ((16 : Int32) < 0 ∨ cl20.slots.size ≤ ((16 : Int32)).toNatClampNeg) := inb_of Sa20 ⟨by decide, by decide⟩
    obtain ⟨T20, h20, X20, e20, W20, st20⟩ := stJ X19 hx hZ e19 Ar20 (j := (16 : Int32)) hin20 (g := (mkF m 134 #[.val (.long q1), .second, .val (.int p1), .unset, .unset, .unset] [(.long (10000000000000000 : Int64)), (.int (16 : Int32)), (.ref b3), (.ref b3)])) rfl rfl (hb hby d4_134)
    have V20 : Arv Z h20 b3 k3 .long (19 : Int32) [(.long (1 : Int64)), (.long (10 : Int64)), (.long (100 : Int64)), (.long (1000 : Int64)), (.long (10000 : Int64)), (.long (100000 : Int64)), (.long (1000000 : Int64)), (.long (10000000 : Int64)), (.long (100000000 : Int64)), (.long (1000000000 : Int64)), (.long (10000000000 : Int64)), (.long (100000000000 : Int64)), (.long (1000000000000 : Int64)), (.long (10000000000000 : Int64)), (.long (100000000000000 : Int64)), (.long (1000000000000000 : Int64)), (.long (10000000000000000 : Int64)), (.long (0 : Int64)), (.long (0 : Int64))] (.long (0 : Int64)) := Arv.set Ar20 qa20 Sa20 Na20 Ha20 Ga20 rfl W20 16 rfl (Nat.le_of_ble_eq_true rfl)
    have K20 : Keep h0 h20 [] := K19.wr W20 (Or.inr sz_b3)
    have Z20 : n0 ≤ h20.size := Nat.le_trans Z19 (Keep.of_wr W20).1
    have N20 := Fr.snoc X20 N19 ge_b3
    refine Goes.via st20 ?_
    show Goes p e below (T20.setTop (mkF m 135 #[.val (.long q1), .second, .val (.int p1), .unset, .unset, .unset] [(.ref b3)])) _
    refine Goes.via (fun t k => XS.dup X20.here hx rfl (hb hby d4_135) rfl rfl k) ?_
    show Goes p e below (T20.setTop (mkF m 136 #[.val (.long q1), .second, .val (.int p1), .unset, .unset, .unset] [(.ref b3), (.ref b3)])) _
    refine Goes.via (fun t k => XS.bipush X20.here hx rfl (hb hby d4_136) k) ?_
    show Goes p e below (T20.setTop (mkF m 138 #[.val (.long q1), .second, .val (.int p1), .unset, .unset, .unset] [(.int (17 : Int32)), (.ref b3), (.ref b3)])) _
    refine Goes.via (fun t k => X20.ldc2Long hx hown (mvT hZ (hw _ (List.mem_of_getElem? (i := 36) rfl))) (g := (mkF m 138 #[.val (.long q1), .second, .val (.int p1), .unset, .unset, .unset] [(.int (17 : Int32)), (.ref b3), (.ref b3)])) rfl (hb hby d4_138) _ k) ?_
    show Goes p e below (T20.setTop (mkF m 141 #[.val (.long q1), .second, .val (.int p1), .unset, .unset, .unset] [(.long (100000000000000000 : Int64)), (.int (17 : Int32)), (.ref b3), (.ref b3)])) _
    obtain ⟨cl21, Ar21, qa21, Sa21, Na21, Ha21, Ga21⟩ := V20
    have hin21 : ¬ ((17 : Int32) < 0 ∨ cl21.slots.size ≤ ((17 : Int32)).toNatClampNeg) := inb_of Sa21 ⟨by decide, by decide⟩
    obtain ⟨T21, h21, X21, e21, W21, st21⟩ := stJ X20 hx hZ e20 Ar21 (j := (17 : Int32)) hin21 (g := (mkF m 141 #[.val (.long q1), .second, .val (.int p1), .unset, .unset, .unset] [(.long (100000000000000000 : Int64)), (.int (17 : Int32)), (.ref b3), (.ref b3)])) rfl rfl (hb hby d4_141)
    have V21 : Arv Z h21 b3 k3 .long (19 : Int32) [(.long (1 : Int64)), (.long (10 : Int64)), (.long (100 : Int64)), (.long (1000 : Int64)), (.long (10000 : Int64)), (.long (100000 : Int64)), (.long (1000000 : Int64)), (.long (10000000 : Int64)), (.long (100000000 : Int64)), (.long (1000000000 : Int64)), (.long (10000000000 : Int64)), (.long (100000000000 : Int64)), (.long (1000000000000 : Int64)), (.long (10000000000000 : Int64)), (.long (100000000000000 : Int64)), (.long (1000000000000000 : Int64)), (.long (10000000000000000 : Int64)), (.long (100000000000000000 : Int64)), (.long (0 : Int64))] (.long (0 : Int64)) := Arv.set Ar21 qa21 Sa21 Na21 Ha21 Ga21 rfl W21 17 rfl (Nat.le_of_ble_eq_true rfl)
    have K21 : Keep h0 h21 [] := K20.wr W21 (Or.inr sz_b3)
    have Z21 : n0 ≤ h21.size := Nat.le_trans Z20 (Keep.of_wr W21).1
    have N21 := Fr.snoc X21 N20 ge_b3
    refine Goes.via st21 ?_
    show Goes p e below (T21.setTop (mkF m 142 #[.val (.long q1), .second, .val (.int p1), .unset, .unset, .unset] [(.ref b3)])) _
    refine Goes.via (fun t k => XS.dup X21.here hx rfl (hb hby d4_142) rfl rfl k) ?_
    show Goes p e below (T21.setTop (mkF m 143 #[.val (.long q1), .second, .val (.int p1), .unset, .unset, .unset] [(.ref b3), (.ref b3)])) _
    refine Goes.via (fun t k => XS.bipush X21.here hx rfl (hb hby d4_143) k) ?_
    show Goes p e below (T21.setTop (mkF m 145 #[.val (.long q1), .second, .val (.int p1), .unset, .unset, .unset] [(.int (18 : Int32)), (.ref b3), (.ref b3)])) _
    refine Goes.via (fun t k => X21.ldc2Long hx hown (mvT hZ (hw _ (List.mem_of_getElem? (i := 37) rfl))) (g := (mkF m 145 #[.val (.long q1), .second, .val (.int p1), .unset, .unset, .unset] [(.int (18 : Int32)), (.ref b3), (.ref b3)])) rfl (hb hby d4_145) _ k) ?_
    show Goes p e below (T21.setTop (mkF m 148 #[.val (.long q1), .second, .val (.int p1), .unset, .unset, .unset] [(.long (1000000000000000000 : Int64)), (.int (18 : Int32)), (.ref b3), (.ref b3)])) _
    obtain ⟨cl22, Ar22, qa22, Sa22, Na22, Ha22, Ga22⟩ := V21
    have hin22 : ¬ ((18 : Int32) < 0 ∨ cl22.slots.size ≤ ((18 : Int32)).toNatClampNeg) := inb_of Sa22 ⟨by decide, by decide⟩
    obtain ⟨T22, h22, X22, e22, W22, st22⟩ := stJ X21 hx hZ e21 Ar22 (j := (18 : Int32)) hin22 (g := (mkF m 148 #[.val (.long q1), .second, .val (.int p1), .unset, .unset, .unset] [(.long (1000000000000000000 : Int64)), (.int (18 : Int32)), (.ref b3), (.ref b3)])) rfl rfl (hb hby d4_148)
    have V22 : Arv Z h22 b3 k3 .long (19 : Int32) [(.long (1 : Int64)), (.long (10 : Int64)), (.long (100 : Int64)), (.long (1000 : Int64)), (.long (10000 : Int64)), (.long (100000 : Int64)), (.long (1000000 : Int64)), (.long (10000000 : Int64)), (.long (100000000 : Int64)), (.long (1000000000 : Int64)), (.long (10000000000 : Int64)), (.long (100000000000 : Int64)), (.long (1000000000000 : Int64)), (.long (10000000000000 : Int64)), (.long (100000000000000 : Int64)), (.long (1000000000000000 : Int64)), (.long (10000000000000000 : Int64)), (.long (100000000000000000 : Int64)), (.long (1000000000000000000 : Int64))] (.long (0 : Int64)) := Arv.set Ar22 qa22 Sa22 Na22 Ha22 Ga22 rfl W22 18 rfl (Nat.le_of_ble_eq_true rfl)
    have K22 : Keep h0 h22 [] := K21.wr W22 (Or.inr sz_b3)
    have Z22 : n0 ≤ h22.size := Nat.le_trans Z21 (Keep.of_wr W22).1
    have N22 := Fr.snoc X22 N21 ge_b3
    refine Goes.via st22 ?_
    show Goes p e below (T22.setTop (mkF m 149 #[.val (.long q1), .second, .val (.int p1), .unset, .unset, .unset] [(.ref b3)])) _
    refine Goes.via (fun t k => XS.astoreN X22.here hx rfl (hb hby d4_149) rfl rfl (l' := #[.val (.long q1), .second, .val (.int p1), .val (.ref b3), .unset, .unset]) rfl k) ?_
    show Goes p e below (T22.setTop (mkF m 150 #[.val (.long q1), .second, .val (.int p1), .val (.ref b3), .unset, .unset] [])) _
    refine Goes.via (fun t k => XS.aloadN X22.here hx rfl (hb hby d4_150) rfl rfl k) ?_
    show Goes p e below (T22.setTop (mkF m 151 #[.val (.long q1), .second, .val (.int p1), .val (.ref b3), .unset, .unset] [(.ref b3)])) _
    refine Goes.via (fun t k => XS.iloadN X22.here hx rfl (hb hby d4_151) rfl k) ?_
    show Goes p e below (T22.setTop (mkF m 152 #[.val (.long q1), .second, .val (.int p1), .val (.ref b3), .unset, .unset] [(.int p1), (.ref b3)])) _
    obtain ⟨cl23, Ar23, qa23, Sa23, Na23, Ha23, Ga23⟩ := id V22
    have hin23 : ¬ (p1 < 0 ∨ cl23.slots.size ≤ (p1).toNatClampNeg) := inb_of Sa23 (own_in hp hc3_1)
    have hat23 : cl23.slots[(p1).toNatClampNeg]? = some (.long (own_pow p1)) := Ha23.at hin23 (own_at hp hc3_1)
    refine Goes.via (fun t k => X22.laload hx (j := p1) (v := (.long (own_pow p1))) (by rw [e22]; exact Ar23.1) (State.isArrayOf_alike hZ.alike Ar23.2.1) Ar23.2.2 hin23 hat23 (g := (mkF m 152 #[.val (.long q1), .second, .val (.int p1), .val (.ref b3), .unset, .unset] [(.int p1), (.ref b3)])) rfl rfl (hb hby d4_152) _ k) ?_
    show Goes p e below (T22.setTop (mkF m 153 #[.val (.long q1), .second, .val (.int p1), .val (.ref b3), .unset, .unset] [(.long (own_pow p1))])) _
    refine Goes.via (fun t k => XS.lstore X22.here hx rfl (hb hby d4_153) rfl (l' := #[.val (.long q1), .second, .val (.int p1), .val (.ref b3), .val (.long (own_pow p1)), .second]) rfl k) ?_
    show Goes p e below (T22.setTop (mkF m 155 #[.val (.long q1), .second, .val (.int p1), .val (.ref b3), .val (.long (own_pow p1)), .second] [])) _
    refine Goes.via (fun t k => XS.lloadN X22.here hx rfl (hb hby d4_155) rfl k) ?_
    show Goes p e below (T22.setTop (mkF m 156 #[.val (.long q1), .second, .val (.int p1), .val (.ref b3), .val (.long (own_pow p1)), .second] [(.long q1)])) _
    refine Goes.via (fun t k => X22.ldc2Long hx hown (mvT hZ (hw _ (List.mem_of_getElem? (i := 38) rfl))) (g := (mkF m 156 #[.val (.long q1), .second, .val (.int p1), .val (.ref b3), .val (.long (own_pow p1)), .second] [(.long q1)])) rfl (hb hby d4_156) _ k) ?_
    show Goes p e below (T22.setTop (mkF m 159 #[.val (.long q1), .second, .val (.int p1), .val (.ref b3), .val (.long (own_pow p1)), .second] [(.long (9223372036854775807 : Int64)), (.long q1)])) _
    refine Goes.via (fun t k => XS.lload X22.here hx rfl (hb hby d4_159) rfl k) ?_
    show Goes p e below (T22.setTop (mkF m 161 #[.val (.long q1), .second, .val (.int p1), .val (.ref b3), .val (.long (own_pow p1)), .second] [(.long (own_pow p1)), (.long (9223372036854775807 : Int64)), (.long q1)])) _
    refine Goes.via (fun t k => XS.ldiv X22.here hx rfl (hb hby d4_161) rfl (own_pow0 hp hc3_1) k) ?_
    show Goes p e below (T22.setTop (mkF m 162 #[.val (.long q1), .second, .val (.int p1), .val (.ref b3), .val (.long (own_pow p1)), .second] [(.long ((9223372036854775807 : Int64) / (own_pow p1))), (.long q1)])) _
    refine Goes.via (fun t k => XS.lcmp X22.here hx rfl (hb hby d4_162) rfl k) ?_
    show Goes p e below (T22.setTop (mkF m 163 #[.val (.long q1), .second, .val (.int p1), .val (.ref b3), .val (.long (own_pow p1)), .second] [(.int (lcmpW q1 ((9223372036854775807 : Int64) / (own_pow p1))))])) _
    by_cases hc163_24 : ((9223372036854775807 : Int64) / (own_pow p1)) < q1
    · refine Goes.via (fun t k => XS.ifYes X22.here hx rfl (pc0 := 163) (pc' := 177) rfl (hb hby d4_163) rfl ((if0 _ _).trans (tlt ((lw_gt _ _).mpr hc163_24)).2.2.1) (by decide) (by decide) k) ?_
      show Goes p e below (T22.setTop (mkF m 177 #[.val (.long q1), .second, .val (.int p1), .val (.ref b3), .val (.long (own_pow p1)), .second] [])) _
      refine Goes.via (fun t k => X22.ldc2Long hx hown (mvT hZ (hw _ (List.mem_of_getElem? (i := 39) rfl))) (g := (mkF m 177 #[.val (.long q1), .second, .val (.int p1), .val (.ref b3), .val (.long (own_pow p1)), .second] [])) rfl (hb hby d4_177) _ k) ?_
      show Goes p e below (T22.setTop (mkF m 180 #[.val (.long q1), .second, .val (.int p1), .val (.ref b3), .val (.long (own_pow p1)), .second] [(.long (-9223372036854775808 : Int64))])) _
      obtain ⟨fs, hr, hrun, hended, hW, hsame⟩ := X22.leave (v := some (.long (-9223372036854775808 : Int64))) (fun h => by rw [Bd.returns] at h; cases h)
      refine ⟨_, _, ?_, hrun, hended, _, _, rfl, ?_, ⟨_, rfl⟩, hW, hsame.mono (by decide) (by decide)⟩
      · exact X22.lreturnOut hx Bd.returns (hb hby d4_180) hr
      · show Q4 Z q1 p1 h0 n0 _ T22.heap _
        rw [e22]
        exact ⟨congrArg some (congrArg _ (by simp only [f4, if_neg hc3_1, if_pos hc163_24])), N22, K22⟩
    · refine Goes.via (fun t k => XS.ifNo X22.here hx rfl (hb hby d4_163) rfl ((if0 _ _).trans (flt (fun q => hc163_24 ((lw_gt _ _).mp q))).2.2.1) k) ?_
      show Goes p e below (T22.setTop (mkF m 166 #[.val (.long q1), .second, .val (.int p1), .val (.ref b3), .val (.long (own_pow p1)), .second] [])) _
      refine Goes.via (fun t k => XS.lloadN X22.here hx rfl (hb hby d4_166) rfl k) ?_
      show Goes p e below (T22.setTop (mkF m 167 #[.val (.long q1), .second, .val (.int p1), .val (.ref b3), .val (.long (own_pow p1)), .second] [(.long q1)])) _
      refine Goes.via (fun t k => X22.ldc2Long hx hown (mvT hZ (hw _ (List.mem_of_getElem? (i := 39) rfl))) (g := (mkF m 167 #[.val (.long q1), .second, .val (.int p1), .val (.ref b3), .val (.long (own_pow p1)), .second] [(.long q1)])) rfl (hb hby d4_167) _ k) ?_
      show Goes p e below (T22.setTop (mkF m 170 #[.val (.long q1), .second, .val (.int p1), .val (.ref b3), .val (.long (own_pow p1)), .second] [(.long (-9223372036854775808 : Int64)), (.long q1)])) _
      refine Goes.via (fun t k => XS.lload X22.here hx rfl (hb hby d4_170) rfl k) ?_
      show Goes p e below (T22.setTop (mkF m 172 #[.val (.long q1), .second, .val (.int p1), .val (.ref b3), .val (.long (own_pow p1)), .second] [(.long (own_pow p1)), (.long (-9223372036854775808 : Int64)), (.long q1)])) _
      refine Goes.via (fun t k => XS.ldiv X22.here hx rfl (hb hby d4_172) rfl (own_pow0 hp hc3_1) k) ?_
      show Goes p e below (T22.setTop (mkF m 173 #[.val (.long q1), .second, .val (.int p1), .val (.ref b3), .val (.long (own_pow p1)), .second] [(.long ((-9223372036854775808 : Int64) / (own_pow p1))), (.long q1)])) _
      refine Goes.via (fun t k => XS.lcmp X22.here hx rfl (hb hby d4_173) rfl k) ?_
      show Goes p e below (T22.setTop (mkF m 174 #[.val (.long q1), .second, .val (.int p1), .val (.ref b3), .val (.long (own_pow p1)), .second] [(.int (lcmpW q1 ((-9223372036854775808 : Int64) / (own_pow p1))))])) _
      by_cases hc174_25 : q1 < ((-9223372036854775808 : Int64) / (own_pow p1))
      · refine Goes.via (fun t k => XS.ifNo X22.here hx rfl (hb hby d4_174) rfl ((if0 _ _).trans (tlt ((lw_lt _ _).mpr hc174_25)).2.1) k) ?_
        show Goes p e below (T22.setTop (mkF m 177 #[.val (.long q1), .second, .val (.int p1), .val (.ref b3), .val (.long (own_pow p1)), .second] [])) _
        refine Goes.via (fun t k => X22.ldc2Long hx hown (mvT hZ (hw _ (List.mem_of_getElem? (i := 39) rfl))) (g := (mkF m 177 #[.val (.long q1), .second, .val (.int p1), .val (.ref b3), .val (.long (own_pow p1)), .second] [])) rfl (hb hby d4_177) _ k) ?_
        show Goes p e below (T22.setTop (mkF m 180 #[.val (.long q1), .second, .val (.int p1), .val (.ref b3), .val (.long (own_pow p1)), .second] [(.long (-9223372036854775808 : Int64))])) _
        obtain ⟨fs, hr, hrun, hended, hW, hsame⟩ := X22.leave (v := some (.long (-9223372036854775808 : Int64))) (fun h => by rw [Bd.returns] at h; cases h)
        refine ⟨_, _, ?_, hrun, hended, _, _, rfl, ?_, ⟨_, rfl⟩, hW, hsame.mono (by decide) (by decide)⟩
        · exact X22.lreturnOut hx Bd.returns (hb hby d4_180) hr
        · show Q4 Z q1 p1 h0 n0 _ T22.heap _
          rw [e22]
          exact ⟨congrArg some (congrArg _ (by simp only [f4, if_neg hc3_1, if_neg hc163_24, if_pos hc174_25])), N22, K22⟩
      · refine Goes.via (fun t k => XS.ifYes X22.here hx rfl (pc0 := 174) (pc' := 181) rfl (hb hby d4_174) rfl ((if0 _ _).trans (flt (fun q => hc174_25 ((lw_lt _ _).mp q))).2.1) (by decide) (by decide) k) ?_
        show Goes p e below (T22.setTop (mkF m 181 #[.val (.long q1), .second, .val (.int p1), .val (.ref b3), .val (.long (own_pow p1)), .second] [])) _
        refine Goes.via (fun t k => XS.lloadN X22.here hx rfl (hb hby d4_181) rfl k) ?_
        show Goes p e below (T22.setTop (mkF m 182 #[.val (.long q1), .second, .val (.int p1), .val (.ref b3), .val (.long (own_pow p1)), .second] [(.long q1)])) _
        refine Goes.via (fun t k => XS.lload X22.here hx rfl (hb hby d4_182) rfl k) ?_
        show Goes p e below (T22.setTop (mkF m 184 #[.val (.long q1), .second, .val (.int p1), .val (.ref b3), .val (.long (own_pow p1)), .second] [(.long (own_pow p1)), (.long q1)])) _
        refine Goes.via (fun t k => XS.lmul X22.here hx rfl (hb hby d4_184) rfl k) ?_
        show Goes p e below (T22.setTop (mkF m 185 #[.val (.long q1), .second, .val (.int p1), .val (.ref b3), .val (.long (own_pow p1)), .second] [(.long (q1 * (own_pow p1)))])) _
        obtain ⟨fs, hr, hrun, hended, hW, hsame⟩ := X22.leave (v := some (.long (q1 * (own_pow p1)))) (fun h => by rw [Bd.returns] at h; cases h)
        refine ⟨_, _, ?_, hrun, hended, _, _, rfl, ?_, ⟨_, rfl⟩, hW, hsame.mono (by decide) (by decide)⟩
        · exact X22.lreturnOut hx Bd.returns (hb hby d4_185) hr
        · show Q4 Z q1 p1 h0 n0 _ T22.heap _
          rw [e22]
          exact ⟨congrArg some (congrArg _ (by simp only [f4, if_neg hc3_1, if_neg hc163_24, if_neg hc174_25])), N22, K22⟩
theorem pn_0 : plainName "com/example/indexwright/indexwright/UnscaledRescalePinLaw" = true := by first | (simp [plainName, overriddenIn]; done) | decide +kernel
theorem pd_0_0 : parseMethodDescriptor "(JI)J" = some ⟨[.long, .int], some .long⟩ := by decide +kernel
theorem ef_0 (m : MethodId) (x0 : Int64) (x1 : Int32) (x2 : Int32) : entryFrame m #[(.long x0), (.int x1), (.int x2)] maxLocals = mkF m 0 #[.val (.long x0), .second, .val (.int x1), .val (.int x2), .unset, .unset, .unset, .unset, .unset] [] := by first | (simp [entryFrame, mkF, argsToLocals, Value.category, maxLocals]; done) | rfl
def v0_6_0 (q1 : Int64) (p1 : Int32) : Int64 := (q1 >>> ((p1 &&& (63 : Int32)) &&& 0x3f).toInt64)
def v0_26_1 (p2 : Int32) : Int32 := (if (p2 &&& (1 : Int32)) = (0 : Int32) then (((p2.toUInt32 >>> ((1 : Int32) &&& 31).toUInt32).toInt32) &&& (31 : Int32)) else ((p2.toUInt32 >>> ((1 : Int32) &&& 31).toUInt32).toInt32))
def v0_55_2 (q1 : Int64) (p1 : Int32) (p2 : Int32) : Int32 := (if (f1 (v0_6_0 q1 p1) (v0_26_1 p2)) = (f4 (v0_6_0 q1 p1) (v0_26_1 p2)) then (1 : Int32) else (0 : Int32))
def f0 (q1 : Int64) (p1 : Int32) (p2 : Int32) : Int32 :=
  (nar .boolean (v0_55_2 q1 p1 p2))
def Q0 (Z : State) (q1 : Int64) (p1 : Int32) (p2 : Int32) (h0 : Heap) (n0 : Nat) (v : Option Value) (h : Heap) (L : List Loc) : Prop := v = some (.int (f0 q1 p1 p2)) ∧ Fr n0 L ∧ True
theorem own_dig (p2 : Int32) : ¬ (v0_26_1 p2 < (0 : Int32)) := by
  have u := c_iushr p2 1 1 (by decide) (by decide)
  have m := c_mask ((p2.toUInt32 >>> ((1 : Int32) &&& 31).toUInt32).toInt32) 31 5 (by decide) (by decide)
  have e0 : (0 : Int32).toInt = 0 := by decide
  rw [Int32.lt_iff_toInt_lt, e0]
  have hp : ((2 ^ 5 : Nat) : Int) = 32 := by decide
  have hq : ((2 ^ 1 : Nat) : Int) = 2 := by decide
  rw [hp] at m
  rw [hq] at u
  simp only [v0_26_1]
  split <;> omega
set_option maxRecDepth 65536 in
set_option maxHeartbeats 40000000 in
theorem rm0 (l : Launch) (Z : State) (a0 : Array Value) (hw : ∀ d ∈ tables_1, d.before a0 Z = true) (ws : List Jvm.Cond) (q1 : Int64) (p1 : Int32) (p2 : Int32) (r1 : Addr) (k1 : ClassId) (h0 : Heap) (n0 : Nat) (Z0 : n0 ≤ h0.size) (S1 : Sta Z h0 "com/example/indexwright/indexwright/Unscaled" "POWERS_OF_TEN" "[J" (.ref r1)) (V1 : Arv Z h0 r1 k1 .long 19 own_list (.long 0)) :
    MetFree l x (head1 (Jvm.Cond.code x code maxLocals ret :: ws) room_1) (fun a U => a = #[(.long q1), (.int p1), (.int p2)] ∧ Z.Warmed39 U.vm ∧ U.heap = h0) (fun _ _ _ _ _ => True) (fun _ U o U' => ∃ v L, o = .returned v ∧ Q0 Z q1 p1 p2 h0 n0 v U'.heap L ∧ FrameEnd U o U' L room_1.cells room_1.slots) := by
  refine MetFree.of_bodySF (plainFor_of_name pn_0) hisR ?_
  intro p e s m args below meth c s₁ Bd hml0 hP hK
  obtain ⟨rfl, hZ, hh⟩ := hP
  have hx := Bd.exec
  have hby := Bd.bytes
  have hml : c.maxLocals = 9 := hml0
  have hown : s.vm.findClass "com/example/indexwright/indexwright/UnscaledRescalePinLaw" = some m.cls := findClass_of_methodNamed Bd.named
  have hnm := (name_of_methodNamed Bd.named Bd.method).1
  have X0 : Stand p l e room_1 s m #[(.long q1), (.int p1), (.int p2)] below meth c s₁ [] 0 0 := Stand.of_body Bd
  have e0 : s₁.heap = h0 := by rw [← hh, Bd.state]; rfl
  have N0 := Fr.nil n0
  refine Goes.via (next := s₁.setTop (mkF m 0 #[.val (.long q1), .second, .val (.int p1), .val (.int p2), .unset, .unset, .unset, .unset, .unset] [])) (fun t k => castTop (ef_0 m q1 p1 p2) k) ?_
  refine Goes.via (fun t k => XS.lloadN X0.here hx rfl (hb hby at_0) rfl k) ?_
  show Goes p e below (s₁.setTop (mkF m 1 #[.val (.long q1), .second, .val (.int p1), .val (.int p2), .unset, .unset, .unset, .unset, .unset] [(.long q1)])) _
  refine Goes.via (fun t k => XS.iloadN X0.here hx rfl (hb hby at_1) rfl k) ?_
  show Goes p e below (s₁.setTop (mkF m 2 #[.val (.long q1), .second, .val (.int p1), .val (.int p2), .unset, .unset, .unset, .unset, .unset] [(.int p1), (.long q1)])) _
  refine Goes.via (fun t k => XS.bipush X0.here hx rfl (hb hby at_2) k) ?_
  show Goes p e below (s₁.setTop (mkF m 4 #[.val (.long q1), .second, .val (.int p1), .val (.int p2), .unset, .unset, .unset, .unset, .unset] [(.int (63 : Int32)), (.int p1), (.long q1)])) _
  refine Goes.via (fun t k => XS.iand X0.here hx rfl (hb hby at_4) rfl k) ?_
  show Goes p e below (s₁.setTop (mkF m 5 #[.val (.long q1), .second, .val (.int p1), .val (.int p2), .unset, .unset, .unset, .unset, .unset] [(.int (p1 &&& (63 : Int32))), (.long q1)])) _
  refine Goes.via (fun t k => XS.lshr X0.here hx rfl (hb hby at_5) rfl k) ?_
  show Goes p e below (s₁.setTop (mkF m 6 #[.val (.long q1), .second, .val (.int p1), .val (.int p2), .unset, .unset, .unset, .unset, .unset] [(.long (q1 >>> ((p1 &&& (63 : Int32)) &&& 0x3f).toInt64))])) _
  refine Goes.via (fun t k => XS.lstore X0.here hx rfl (hb hby at_6) rfl (l' := #[.val (.long q1), .second, .val (.int p1), .val (.int p2), .val (.long (v0_6_0 q1 p1)), .second, .unset, .unset, .unset]) rfl k) ?_
  show Goes p e below (s₁.setTop (mkF m 8 #[.val (.long q1), .second, .val (.int p1), .val (.int p2), .val (.long (v0_6_0 q1 p1)), .second, .unset, .unset, .unset] [])) _
  refine Goes.via (fun t k => XS.iloadN X0.here hx rfl (hb hby at_8) rfl k) ?_
  show Goes p e below (s₁.setTop (mkF m 9 #[.val (.long q1), .second, .val (.int p1), .val (.int p2), .val (.long (v0_6_0 q1 p1)), .second, .unset, .unset, .unset] [(.int p2)])) _
  refine Goes.via (fun t k => XS.iconst X0.here hx rfl (hb hby at_9) k) ?_
  show Goes p e below (s₁.setTop (mkF m 10 #[.val (.long q1), .second, .val (.int p1), .val (.int p2), .val (.long (v0_6_0 q1 p1)), .second, .unset, .unset, .unset] [(.int (1 : Int32)), (.int p2)])) _
  refine Goes.via (fun t k => XS.iand X0.here hx rfl (hb hby at_10) rfl k) ?_
  show Goes p e below (s₁.setTop (mkF m 11 #[.val (.long q1), .second, .val (.int p1), .val (.int p2), .val (.long (v0_6_0 q1 p1)), .second, .unset, .unset, .unset] [(.int (p2 &&& (1 : Int32)))])) _
  refine Goes.via (next := s₁.setTop (mkF m 26 #[.val (.long q1), .second, .val (.int p1), .val (.int p2), .val (.long (v0_6_0 q1 p1)), .second, .unset, .unset, .unset] [(.int (v0_26_1 p2))])) (fun t k => ?_) ?_
  · by_cases hc11_1 : (p2 &&& (1 : Int32)) = (0 : Int32)
    · refine XS.ifNo X0.here hx rfl (hb hby at_11) rfl ((if0 _ _).trans (teq hc11_1).2) ?_
      show Steps p.tables e below (s₁.setTop (mkF m 14 #[.val (.long q1), .second, .val (.int p1), .val (.int p2), .val (.long (v0_6_0 q1 p1)), .second, .unset, .unset, .unset] [])) _
      refine XS.iloadN X0.here hx rfl (hb hby at_14) rfl ?_
      show Steps p.tables e below (s₁.setTop (mkF m 15 #[.val (.long q1), .second, .val (.int p1), .val (.int p2), .val (.long (v0_6_0 q1 p1)), .second, .unset, .unset, .unset] [(.int p2)])) _
      refine XS.iconst X0.here hx rfl (hb hby at_15) ?_
      show Steps p.tables e below (s₁.setTop (mkF m 16 #[.val (.long q1), .second, .val (.int p1), .val (.int p2), .val (.long (v0_6_0 q1 p1)), .second, .unset, .unset, .unset] [(.int (1 : Int32)), (.int p2)])) _
      refine XS.iushr X0.here hx rfl (hb hby at_16) rfl ?_
      show Steps p.tables e below (s₁.setTop (mkF m 17 #[.val (.long q1), .second, .val (.int p1), .val (.int p2), .val (.long (v0_6_0 q1 p1)), .second, .unset, .unset, .unset] [(.int ((p2.toUInt32 >>> ((1 : Int32) &&& 31).toUInt32).toInt32))])) _
      refine XS.bipush X0.here hx rfl (hb hby at_17) ?_
      show Steps p.tables e below (s₁.setTop (mkF m 19 #[.val (.long q1), .second, .val (.int p1), .val (.int p2), .val (.long (v0_6_0 q1 p1)), .second, .unset, .unset, .unset] [(.int (31 : Int32)), (.int ((p2.toUInt32 >>> ((1 : Int32) &&& 31).toUInt32).toInt32))])) _
      refine XS.iand X0.here hx rfl (hb hby at_19) rfl ?_
      show Steps p.tables e below (s₁.setTop (mkF m 20 #[.val (.long q1), .second, .val (.int p1), .val (.int p2), .val (.long (v0_6_0 q1 p1)), .second, .unset, .unset, .unset] [(.int (((p2.toUInt32 >>> ((1 : Int32) &&& 31).toUInt32).toInt32) &&& (31 : Int32)))])) _
      refine XS.goto X0.here hx rfl (pc0 := 20) (pc' := 26) rfl (hb hby at_20) (by decide) (by decide) ?_
      show Steps p.tables e below (s₁.setTop (mkF m 26 #[.val (.long q1), .second, .val (.int p1), .val (.int p2), .val (.long (v0_6_0 q1 p1)), .second, .unset, .unset, .unset] [(.int (((p2.toUInt32 >>> ((1 : Int32) &&& 31).toUInt32).toInt32) &&& (31 : Int32)))])) _
      simpa only [v0_26_1, if_pos hc11_1] using k
    · refine XS.ifYes X0.here hx rfl (pc0 := 11) (pc' := 23) rfl (hb hby at_11) rfl ((if0 _ _).trans (feq hc11_1).2) (by decide) (by decide) ?_
      show Steps p.tables e below (s₁.setTop (mkF m 23 #[.val (.long q1), .second, .val (.int p1), .val (.int p2), .val (.long (v0_6_0 q1 p1)), .second, .unset, .unset, .unset] [])) _
      refine XS.iloadN X0.here hx rfl (hb hby at_23) rfl ?_
      show Steps p.tables e below (s₁.setTop (mkF m 24 #[.val (.long q1), .second, .val (.int p1), .val (.int p2), .val (.long (v0_6_0 q1 p1)), .second, .unset, .unset, .unset] [(.int p2)])) _
      refine XS.iconst X0.here hx rfl (hb hby at_24) ?_
      show Steps p.tables e below (s₁.setTop (mkF m 25 #[.val (.long q1), .second, .val (.int p1), .val (.int p2), .val (.long (v0_6_0 q1 p1)), .second, .unset, .unset, .unset] [(.int (1 : Int32)), (.int p2)])) _
      refine XS.iushr X0.here hx rfl (hb hby at_25) rfl ?_
      show Steps p.tables e below (s₁.setTop (mkF m 26 #[.val (.long q1), .second, .val (.int p1), .val (.int p2), .val (.long (v0_6_0 q1 p1)), .second, .unset, .unset, .unset] [(.int ((p2.toUInt32 >>> ((1 : Int32) &&& 31).toUInt32).toInt32))])) _
      simpa only [v0_26_1, if_neg hc11_1] using k
  show Goes p e below (s₁.setTop (mkF m 26 #[.val (.long q1), .second, .val (.int p1), .val (.int p2), .val (.long (v0_6_0 q1 p1)), .second, .unset, .unset, .unset] [(.int (v0_26_1 p2))])) _
  refine Goes.via (fun t k => XS.istore X0.here hx rfl (hb hby at_26) rfl (l' := #[.val (.long q1), .second, .val (.int p1), .val (.int p2), .val (.long (v0_6_0 q1 p1)), .second, .val (.int (v0_26_1 p2)), .unset, .unset]) rfl k) ?_
  show Goes p e below (s₁.setTop (mkF m 28 #[.val (.long q1), .second, .val (.int p1), .val (.int p2), .val (.long (v0_6_0 q1 p1)), .second, .val (.int (v0_26_1 p2)), .unset, .unset] [])) _
  refine Goes.via (fun t k => XS.lload X0.here hx rfl (hb hby at_28) rfl k) ?_
  show Goes p e below (s₁.setTop (mkF m 30 #[.val (.long q1), .second, .val (.int p1), .val (.int p2), .val (.long (v0_6_0 q1 p1)), .second, .val (.int (v0_26_1 p2)), .unset, .unset] [(.long (v0_6_0 q1 p1))])) _
  refine Goes.via (fun t k => XS.iload X0.here hx rfl (hb hby at_30) rfl k) ?_
  show Goes p e below (s₁.setTop (mkF m 32 #[.val (.long q1), .second, .val (.int p1), .val (.int p2), .val (.long (v0_6_0 q1 p1)), .second, .val (.int (v0_26_1 p2)), .unset, .unset] [(.int (v0_26_1 p2)), (.long (v0_6_0 q1 p1))])) _
  obtain ⟨_, _, ⟨T2, L2, k2, n2⟩, -, X2, ⟨Lc2, hQ2, l2, y2, z2⟩, st2⟩ := Jvm.LawKit.callS X0 hx (y := (⟨"com/example/indexwright/indexwright/Unscaled", "rescale", "(JI)J"⟩ : MethodName)) hown (mvT hZ (hw _ (List.mem_of_getElem? (i := 0) rfl))) (mvT hZ (hw _ (List.mem_of_getElem? (i := 1) rfl))) (mvT hZ (hw _ (List.mem_of_getElem? (i := 2) rfl))) (mvT hZ (hw _ (List.mem_of_getElem? (i := 3) rfl))) (by decide) (backOf (W := 0) (rm1 l Z a0 hw [] (v0_6_0 q1 p1) (v0_26_1 p2) r1 k1 h0 n0 Z0 S1 V1 (own_dig _)) hZ (hw _ (List.mem_of_getElem? (i := 3) rfl)) (hw _ (List.mem_of_getElem? (i := 2) rfl)) (by decide) (by decide)) (g := (mkF m 32 #[.val (.long q1), .second, .val (.int p1), .val (.int p2), .val (.long (v0_6_0 q1 p1)), .second, .val (.int (v0_26_1 p2)), .unset, .unset] [(.int (v0_26_1 p2)), (.long (v0_6_0 q1 p1))])) rfl (by rw [hml]; rfl) (argsL := [(.long (v0_6_0 q1 p1)), (.int (v0_26_1 p2))]) (rest := []) (lenOf pd_0_0 rfl) rfl (by show 2 * 0 + _ ≤ _; exact Nat.le_of_eq rfl) (hb hby at_32) (fun _ _ => ⟨rfl, e0, (by decide : 0 + 0 ≤ _), (by decide : 0 + 0 ≤ _)⟩)
  dsimp only [Pt.U, Pt.locs, Pt.cells, Pt.slots] at X2 l2 y2 z2 st2 hQ2
  subst l2 y2 z2
  obtain ⟨rfl, N2q, er2⟩ := hQ2
  have e2 : T2.heap = h0 := er2
  have N2 := Fr.app N0 N2q
  refine Goes.via st2 ?_
  show Goes p e below (T2.setTop (mkF m 35 #[.val (.long q1), .second, .val (.int p1), .val (.int p2), .val (.long (v0_6_0 q1 p1)), .second, .val (.int (v0_26_1 p2)), .unset, .unset] [(.long (f1 (v0_6_0 q1 p1) (v0_26_1 p2)))])) _
  refine Goes.via (fun t k => XS.lstore X2.here hx rfl (hb hby at_35) rfl (l' := #[.val (.long q1), .second, .val (.int p1), .val (.int p2), .val (.long (v0_6_0 q1 p1)), .second, .val (.int (v0_26_1 p2)), .val (.long (f1 (v0_6_0 q1 p1) (v0_26_1 p2))), .second]) rfl k) ?_
  show Goes p e below (T2.setTop (mkF m 37 #[.val (.long q1), .second, .val (.int p1), .val (.int p2), .val (.long (v0_6_0 q1 p1)), .second, .val (.int (v0_26_1 p2)), .val (.long (f1 (v0_6_0 q1 p1) (v0_26_1 p2))), .second] [])) _
  refine Goes.via (fun t k => XS.lload X2.here hx rfl (hb hby at_37) rfl k) ?_
  show Goes p e below (T2.setTop (mkF m 39 #[.val (.long q1), .second, .val (.int p1), .val (.int p2), .val (.long (v0_6_0 q1 p1)), .second, .val (.int (v0_26_1 p2)), .val (.long (f1 (v0_6_0 q1 p1) (v0_26_1 p2))), .second] [(.long (f1 (v0_6_0 q1 p1) (v0_26_1 p2)))])) _
  refine Goes.via (fun t k => XS.lload X2.here hx rfl (hb hby at_39) rfl k) ?_
  show Goes p e below (T2.setTop (mkF m 41 #[.val (.long q1), .second, .val (.int p1), .val (.int p2), .val (.long (v0_6_0 q1 p1)), .second, .val (.int (v0_26_1 p2)), .val (.long (f1 (v0_6_0 q1 p1) (v0_26_1 p2))), .second] [(.long (v0_6_0 q1 p1)), (.long (f1 (v0_6_0 q1 p1) (v0_26_1 p2)))])) _
  refine Goes.via (fun t k => XS.iload X2.here hx rfl (hb hby at_41) rfl k) ?_
  show Goes p e below (T2.setTop (mkF m 43 #[.val (.long q1), .second, .val (.int p1), .val (.int p2), .val (.long (v0_6_0 q1 p1)), .second, .val (.int (v0_26_1 p2)), .val (.long (f1 (v0_6_0 q1 p1) (v0_26_1 p2))), .second] [(.int (v0_26_1 p2)), (.long (v0_6_0 q1 p1)), (.long (f1 (v0_6_0 q1 p1) (v0_26_1 p2)))])) _
  obtain ⟨_, _, ⟨T3, L3, k3, n3⟩, -, X3, ⟨Lc3, hQ3, l3, y3, z3⟩, st3⟩ := Jvm.LawKit.callS X2 hx (y := (⟨"com/example/indexwright/indexwright/UnscaledRescalePinLaw", "expected", "(JI)J"⟩ : MethodName)) hown (mvT hZ (hw _ (List.mem_of_getElem? (i := 15) rfl))) (mvT hZ (hw _ (List.mem_of_getElem? (i := 16) rfl))) (mvT hZ (hw _ (List.mem_of_getElem? (i := 17) rfl))) (mvT hZ (hw _ (List.mem_of_getElem? (i := 18) rfl))) (by decide) (backOf (W := 2) (rm4 l Z a0 hw [] (v0_6_0 q1 p1) (v0_26_1 p2)  h0 n0 Z0 (own_dig _)) hZ (hw _ (List.mem_of_getElem? (i := 18) rfl)) (hw _ (List.mem_of_getElem? (i := 17) rfl)) (by decide) (by decide)) (g := (mkF m 43 #[.val (.long q1), .second, .val (.int p1), .val (.int p2), .val (.long (v0_6_0 q1 p1)), .second, .val (.int (v0_26_1 p2)), .val (.long (f1 (v0_6_0 q1 p1) (v0_26_1 p2))), .second] [(.int (v0_26_1 p2)), (.long (v0_6_0 q1 p1)), (.long (f1 (v0_6_0 q1 p1) (v0_26_1 p2)))])) rfl (by rw [hml]; rfl) (argsL := [(.long (v0_6_0 q1 p1)), (.int (v0_26_1 p2))]) (rest := [(.long (f1 (v0_6_0 q1 p1) (v0_26_1 p2)))]) (lenOf pd_0_0 rfl) rfl (by show 2 * 0 + _ ≤ _; exact Nat.le_of_eq rfl) (hb hby at_43) (fun _ _ => ⟨rfl, e2, (by decide : 0 + 1 ≤ _), (by decide : 0 + 19 ≤ _)⟩)
  dsimp only [Pt.U, Pt.locs, Pt.cells, Pt.slots] at X3 l3 y3 z3 st3 hQ3
  subst l3 y3 z3
  obtain ⟨rfl, N3q, Kc3⟩ := hQ3
  have K3 : Keep h0 T3.heap [] := (Keep.refl h0 []).trans Kc3 (fun x hx => nomatch hx)
  have Z3 : n0 ≤ T3.heap.size := Nat.le_trans Z0 Kc3.1
  have N3 := Fr.app N2 N3q
  refine Goes.via st3 ?_
  show Goes p e below (T3.setTop (mkF m 46 #[.val (.long q1), .second, .val (.int p1), .val (.int p2), .val (.long (v0_6_0 q1 p1)), .second, .val (.int (v0_26_1 p2)), .val (.long (f1 (v0_6_0 q1 p1) (v0_26_1 p2))), .second] [(.long (f4 (v0_6_0 q1 p1) (v0_26_1 p2))), (.long (f1 (v0_6_0 q1 p1) (v0_26_1 p2)))])) _
  refine Goes.via (fun t k => XS.lcmp X3.here hx rfl (hb hby at_46) rfl k) ?_
  show Goes p e below (T3.setTop (mkF m 47 #[.val (.long q1), .second, .val (.int p1), .val (.int p2), .val (.long (v0_6_0 q1 p1)), .second, .val (.int (v0_26_1 p2)), .val (.long (f1 (v0_6_0 q1 p1) (v0_26_1 p2))), .second] [(.int (lcmpW (f1 (v0_6_0 q1 p1) (v0_26_1 p2)) (f4 (v0_6_0 q1 p1) (v0_26_1 p2))))])) _
  refine Goes.via (next := T3.setTop (mkF m 55 #[.val (.long q1), .second, .val (.int p1), .val (.int p2), .val (.long (v0_6_0 q1 p1)), .second, .val (.int (v0_26_1 p2)), .val (.long (f1 (v0_6_0 q1 p1) (v0_26_1 p2))), .second] [(.int (v0_55_2 q1 p1 p2))])) (fun t k => ?_) ?_
  · by_cases hc47_4 : (f1 (v0_6_0 q1 p1) (v0_26_1 p2)) = (f4 (v0_6_0 q1 p1) (v0_26_1 p2))
    · refine XS.ifNo X3.here hx rfl (hb hby at_47) rfl ((if0 _ _).trans (teq ((lw_eq _ _).mpr hc47_4)).2) ?_
      show Steps p.tables e below (T3.setTop (mkF m 50 #[.val (.long q1), .second, .val (.int p1), .val (.int p2), .val (.long (v0_6_0 q1 p1)), .second, .val (.int (v0_26_1 p2)), .val (.long (f1 (v0_6_0 q1 p1) (v0_26_1 p2))), .second] [])) _
      refine XS.iconst X3.here hx rfl (hb hby at_50) ?_
      show Steps p.tables e below (T3.setTop (mkF m 51 #[.val (.long q1), .second, .val (.int p1), .val (.int p2), .val (.long (v0_6_0 q1 p1)), .second, .val (.int (v0_26_1 p2)), .val (.long (f1 (v0_6_0 q1 p1) (v0_26_1 p2))), .second] [(.int (1 : Int32))])) _
      refine XS.goto X3.here hx rfl (pc0 := 51) (pc' := 55) rfl (hb hby at_51) (by decide) (by decide) ?_
      show Steps p.tables e below (T3.setTop (mkF m 55 #[.val (.long q1), .second, .val (.int p1), .val (.int p2), .val (.long (v0_6_0 q1 p1)), .second, .val (.int (v0_26_1 p2)), .val (.long (f1 (v0_6_0 q1 p1) (v0_26_1 p2))), .second] [(.int (1 : Int32))])) _
      simpa only [v0_55_2, if_pos hc47_4] using k
    · refine XS.ifYes X3.here hx rfl (pc0 := 47) (pc' := 54) rfl (hb hby at_47) rfl ((if0 _ _).trans (feq (fun q => hc47_4 ((lw_eq _ _).mp q))).2) (by decide) (by decide) ?_
      show Steps p.tables e below (T3.setTop (mkF m 54 #[.val (.long q1), .second, .val (.int p1), .val (.int p2), .val (.long (v0_6_0 q1 p1)), .second, .val (.int (v0_26_1 p2)), .val (.long (f1 (v0_6_0 q1 p1) (v0_26_1 p2))), .second] [])) _
      refine XS.iconst X3.here hx rfl (hb hby at_54) ?_
      show Steps p.tables e below (T3.setTop (mkF m 55 #[.val (.long q1), .second, .val (.int p1), .val (.int p2), .val (.long (v0_6_0 q1 p1)), .second, .val (.int (v0_26_1 p2)), .val (.long (f1 (v0_6_0 q1 p1) (v0_26_1 p2))), .second] [(.int (0 : Int32))])) _
      simpa only [v0_55_2, if_neg hc47_4] using k
  show Goes p e below (T3.setTop (mkF m 55 #[.val (.long q1), .second, .val (.int p1), .val (.int p2), .val (.long (v0_6_0 q1 p1)), .second, .val (.int (v0_26_1 p2)), .val (.long (f1 (v0_6_0 q1 p1) (v0_26_1 p2))), .second] [(.int (v0_55_2 q1 p1 p2))])) _
  obtain ⟨fs, hr, hrun, hended, hW, hsame⟩ := X3.leave (v := some (.int (nar .boolean (v0_55_2 q1 p1 p2)))) (fun h => by rw [Bd.returns] at h; cases h)
  refine ⟨_, _, ?_, hrun, hended, _, _, rfl, ?_, ⟨_, rfl⟩, hW, hsame.mono (by decide) (by decide)⟩
  · exact retN X3 hx (t := .boolean) Bd.returns (by simp) (hb hby at_55) hr
  · show Q0 Z q1 p1 p2 h0 n0 _ T3.heap _
    exact ⟨congrArg some (congrArg _ rfl), N3, trivial⟩
theorem own_mid (v P : Int64) (h1 : 1 ≤ P.toInt) (h2 : P.toInt ≤ 1000000000000000000) : own_fits v P ↔ ¬ ((9223372036854775807 : Int64) / P) < v ∧ ¬ v < ((-9223372036854775808 : Int64) / P) := by
  have e1 : (9223372036854775807 : Int64).toInt = 9223372036854775807 := by decide
  have n1 : P ≠ -1 := by intro q; rw [q] at h1; exact absurd h1 (by decide)
  have d1 := (c_ldiv 9223372036854775807 P P.toInt rfl n1).1 (by rw [e1]; decide)
  have d2 := (c_ldiv (-9223372036854775808) P P.toInt rfl n1).2 (by rw [own_min]; decide)
  rw [e1] at d1
  rw [own_min] at d2
  rw [Int64.lt_iff_toInt_lt, Int64.lt_iff_toInt_lt, d1, d2]
  have k1 : v.toInt ≤ 9223372036854775807 / P.toInt ↔ v.toInt * P.toInt ≤ 9223372036854775807 := Int.le_ediv_iff_mul_le (by omega)
  have k2 : -v.toInt ≤ 9223372036854775808 / P.toInt ↔ -v.toInt * P.toInt ≤ 9223372036854775808 := Int.le_ediv_iff_mul_le (by omega)
  have k3 : -v.toInt * P.toInt = -(v.toInt * P.toInt) := Int.neg_mul _ _
  have k4 : - -9223372036854775808 = (9223372036854775808 : Int) := by decide
  rw [k4]
  unfold own_fits
  constructor
  · rintro ⟨f, g⟩
    have a1 := k1.mpr (by omega)
    have a2 := k2.mpr (by omega)
    exact ⟨by omega, by omega⟩
  · rintro ⟨f, g⟩
    have a1 := k1.mp (by omega)
    have a2 := k2.mp (by omega)
    exact ⟨by omega, by omega⟩
theorem own_same (v : Int64) (d : Int32) (hd : ¬ d < (0 : Int32)) : f1 v d = f4 v d := by
  simp only [f1, f4]
  by_cases h : (18 : Int32) < d
  · simp only [if_pos h]; rfl
  · simp only [if_neg h]
    obtain ⟨r1, r2⟩ := own_powr hd h
    obtain ⟨p1, p2⟩ := own_f2 v (own_pow d)
    have m := own_mid v (own_pow d) r1 r2
    by_cases hf : own_fits v (own_pow d)
    · rw [p1 hf, if_neg (m.mp hf).1, if_neg (m.mp hf).2]
    · rw [p2 hf]
      by_cases q1 : ((9223372036854775807 : Int64) / own_pow d) < v
      · rw [if_pos q1]
      · rw [if_neg q1]
        by_cases q2 : v < ((-9223372036854775808 : Int64) / own_pow d)
        · rw [if_pos q2]
        · exact absurd (m.mpr ⟨q1, q2⟩) hf
theorem one_1 (i0 : Int64) (i1 i2 : Int32) : f0 i0 i1 i2 = 1 := by
  have h := own_same (v0_6_0 i0 i1) (v0_26_1 i2) (own_dig i2)
  simp only [f0, v0_55_2, if_pos h]
  decide
theorem own_isInt {args : Array Value} {s : State} {t : Jvm.Term} {k : Int32} (h : t.eval args s none [] s = some (.int k)) : (Jvm.Cond.isInt t).before args s = true := by
  simp [Cond.before, Cond.holds, Cond.value, h]
set_option maxRecDepth 65536 in
set_option maxHeartbeats 40000000 in
theorem comes_1 {Post : Tables → Env → Array Value → State → Outcome → State → Prop} (hpost : ∀ tb e args s v u, (limb_1_1.after args s (.returned v) u = true ∧ limb_1_2.after args s (.returned v) u = true ∧ True) → FrameEnd s (.returned v) u (Jvm.fieldLocs frame_1_writes args s ++ Jvm.arrayLocs frame_1_arrays args s ++ Jvm.staticLocs frame_1_statics s) 16 128 → Post tb e args s (.returned v) u) :
    ArmFor flags0 classFile x code maxLocals ret World_1 tables_1 room_1 Calls_1 rest_1 Pre_1 Post := by
  intro l hfl _ _ p e ha hc hk s m args below hf hA hF happ hP
  obtain ⟨hcalls, hrest, hpre⟩ := hP
  obtain ⟨-, -, -, hnamed, -, -, -, hat⟩ := (Spec.applies_iff hf).mp happ
  obtain ⟨hg, hn⟩ := and_e (Cond.before_iff.mp (show (Jvm.Cond.and given_1 narrow_1).before args s = true from hpre))
  obtain ⟨g0, r0⟩ := and_e hg
  obtain ⟨w0, w1, w2, rfl⟩ : ∃ w0 w1 w2 : Value, args = #[w0, w1, w2] := by
    have hs : args.size = 3 := by simpa [Cond.value, given_1] using g0
    obtain ⟨L⟩ := args
    match L, hs with
    | [w0, w1, w2], _ => exact ⟨w0, w1, w2, rfl⟩
  have hw := fun d (hd : d ∈ tables_1) => atoms_spec (ws := Jvm.Cond.code x code maxLocals ret :: tables_1) hat d (List.mem_cons_of_mem _ hd)
  obtain ⟨g1, r1⟩ := and_e r0
  obtain ⟨g2, r2⟩ := and_e r1
  have g3 := r2
  obtain ⟨i0, ei0⟩ := isL_v g1
  obtain rfl : w0 = (.long i0) := Option.some.inj ei0
  obtain ⟨i1, ei1⟩ := is_v g2
  obtain rfl : w1 = (.int i1) := Option.some.inj ei1
  obtain ⟨i2, ei2⟩ := is_v g3
  obtain rfl : w2 = (.int i2) := Option.some.inj ei2
  obtain ⟨m0, mr0⟩ := and_e hn
  obtain ⟨m1, mr1⟩ := and_e mr0
  obtain ⟨m2, mr2⟩ := and_e mr1
  obtain ⟨m3, mr3⟩ := and_e mr2
  obtain ⟨m4, mr4⟩ := and_e mr3
  obtain ⟨m5, mr5⟩ := and_e mr4
  obtain ⟨m6, mr6⟩ := and_e mr5
  obtain ⟨m7, mr7⟩ := and_e mr6
  obtain ⟨m8, mr8⟩ := and_e mr7
  obtain ⟨m9, mr9⟩ := and_e mr8
  obtain ⟨m10, mr10⟩ := and_e mr9
  obtain ⟨m11, mr11⟩ := and_e mr10
  obtain ⟨m12, mr12⟩ := and_e mr11
  obtain ⟨m13, mr13⟩ := and_e mr12
  obtain ⟨m14, mr14⟩ := and_e mr13
  obtain ⟨m15, mr15⟩ := and_e mr14
  obtain ⟨m16, mr16⟩ := and_e mr15
  obtain ⟨m17, mr17⟩ := and_e mr16
  obtain ⟨m18, mr18⟩ := and_e mr17
  obtain ⟨m19, mr19⟩ := and_e mr18
  have m20 := mr19
  obtain ⟨r1, ev1⟩ := arr_v m0
  have S1 := Sta.start ev1 (Or.inr ⟨(hw _ (List.mem_of_getElem? (i := 2) rfl)), (hw _ (List.mem_of_getElem? (i := 5) rfl))⟩)
  obtain ⟨cl1, Ar1⟩ := Arr.start ev1 m0
  have hfit : Fit s := fun {y c} hc i hi => by
    obtain ⟨ha, rfl⟩ := Array.getElem?_eq_some_iff.mp hc
    have q := List.all_eq_true.mp ((Array.all_eq_true_iff_forall_mem.mp hF) _ (Array.getElem_mem ha)) i (List.mem_range.mpr hi)
    simpa [Array.getElem?_eq_getElem hi] using q
  have hs0 := Cond.small_of_lengthOf ev1 (Arr.fin (Vm.Alike.refl _) Ar1) (own_isInt (eqv_i rfl m1))
  have hl1 := gotT (Cond.eq_ints (len_f ev1 (Arr.fin (Vm.Alike.refl _) Ar1) hs0) (show (Jvm.Term.int (19 : Int32)).eval _ s none [] s = some (.int 19) from rfl)) m1
  have a0 := (elem_f ev1 (show (Jvm.Term.int (0 : Int32)).eval _ s none [] s = some (.int 0) from rfl) (Arr.fin (Vm.Alike.refl _) Ar1) (by decide)).symm.trans (eqv_l rfl m2)
  have a1 := (elem_f ev1 (show (Jvm.Term.int (1 : Int32)).eval _ s none [] s = some (.int 1) from rfl) (Arr.fin (Vm.Alike.refl _) Ar1) (by decide)).symm.trans (eqv_l rfl m3)
  have a2 := (elem_f ev1 (show (Jvm.Term.int (2 : Int32)).eval _ s none [] s = some (.int 2) from rfl) (Arr.fin (Vm.Alike.refl _) Ar1) (by decide)).symm.trans (eqv_l rfl m4)
  have a3 := (elem_f ev1 (show (Jvm.Term.int (3 : Int32)).eval _ s none [] s = some (.int 3) from rfl) (Arr.fin (Vm.Alike.refl _) Ar1) (by decide)).symm.trans (eqv_l rfl m5)
  have a4 := (elem_f ev1 (show (Jvm.Term.int (4 : Int32)).eval _ s none [] s = some (.int 4) from rfl) (Arr.fin (Vm.Alike.refl _) Ar1) (by decide)).symm.trans (eqv_l rfl m6)
  have a5 := (elem_f ev1 (show (Jvm.Term.int (5 : Int32)).eval _ s none [] s = some (.int 5) from rfl) (Arr.fin (Vm.Alike.refl _) Ar1) (by decide)).symm.trans (eqv_l rfl m7)
  have a6 := (elem_f ev1 (show (Jvm.Term.int (6 : Int32)).eval _ s none [] s = some (.int 6) from rfl) (Arr.fin (Vm.Alike.refl _) Ar1) (by decide)).symm.trans (eqv_l rfl m8)
  have a7 := (elem_f ev1 (show (Jvm.Term.int (7 : Int32)).eval _ s none [] s = some (.int 7) from rfl) (Arr.fin (Vm.Alike.refl _) Ar1) (by decide)).symm.trans (eqv_l rfl m9)
  have a8 := (elem_f ev1 (show (Jvm.Term.int (8 : Int32)).eval _ s none [] s = some (.int 8) from rfl) (Arr.fin (Vm.Alike.refl _) Ar1) (by decide)).symm.trans (eqv_l rfl m10)
  have a9 := (elem_f ev1 (show (Jvm.Term.int (9 : Int32)).eval _ s none [] s = some (.int 9) from rfl) (Arr.fin (Vm.Alike.refl _) Ar1) (by decide)).symm.trans (eqv_l rfl m11)
  have a10 := (elem_f ev1 (show (Jvm.Term.int (10 : Int32)).eval _ s none [] s = some (.int 10) from rfl) (Arr.fin (Vm.Alike.refl _) Ar1) (by decide)).symm.trans (eqv_l rfl m12)
  have a11 := (elem_f ev1 (show (Jvm.Term.int (11 : Int32)).eval _ s none [] s = some (.int 11) from rfl) (Arr.fin (Vm.Alike.refl _) Ar1) (by decide)).symm.trans (eqv_l rfl m13)
  have a12 := (elem_f ev1 (show (Jvm.Term.int (12 : Int32)).eval _ s none [] s = some (.int 12) from rfl) (Arr.fin (Vm.Alike.refl _) Ar1) (by decide)).symm.trans (eqv_l rfl m14)
  have a13 := (elem_f ev1 (show (Jvm.Term.int (13 : Int32)).eval _ s none [] s = some (.int 13) from rfl) (Arr.fin (Vm.Alike.refl _) Ar1) (by decide)).symm.trans (eqv_l rfl m15)
  have a14 := (elem_f ev1 (show (Jvm.Term.int (14 : Int32)).eval _ s none [] s = some (.int 14) from rfl) (Arr.fin (Vm.Alike.refl _) Ar1) (by decide)).symm.trans (eqv_l rfl m16)
  have a15 := (elem_f ev1 (show (Jvm.Term.int (15 : Int32)).eval _ s none [] s = some (.int 15) from rfl) (Arr.fin (Vm.Alike.refl _) Ar1) (by decide)).symm.trans (eqv_l rfl m17)
  have a16 := (elem_f ev1 (show (Jvm.Term.int (16 : Int32)).eval _ s none [] s = some (.int 16) from rfl) (Arr.fin (Vm.Alike.refl _) Ar1) (by decide)).symm.trans (eqv_l rfl m18)
  have a17 := (elem_f ev1 (show (Jvm.Term.int (17 : Int32)).eval _ s none [] s = some (.int 17) from rfl) (Arr.fin (Vm.Alike.refl _) Ar1) (by decide)).symm.trans (eqv_l rfl m19)
  have a18 := (elem_f ev1 (show (Jvm.Term.int (18 : Int32)).eval _ s none [] s = some (.int 18) from rfl) (Arr.fin (Vm.Alike.refl _) Ar1) (by decide)).symm.trans (eqv_l rfl m20)
  have V1 : Arv s s.heap r1 cl1.cls .long (19 : Int32) own_list (.long 0) := Arv.start hfit Ar1 hs0 hl1 (by decide) (by decide) ⟨a0, a1, a2, a3, a4, a5, a6, a7, a8, a9, a10, a11, a12, a13, a14, a15, a16, a17, a18, trivial⟩
  obtain ⟨n, o, h1, h2, h3, v, L, rfl, hQ, hq⟩ := rm0 l s _ hw tables_1 i0 i1 i2 r1 cl1.cls s.heap s.heap.size (Nat.le_refl _) S1 V1 p e ha hc hk s m _ below hf ((Spec.applies_iff_loose hf).mp happ).1 ⟨rfl, State.Warmed39.refl s, rfl⟩ trivial
  obtain ⟨hv, N⟩ : v = some (.int 1) ∧ Fr s.heap.size L := ⟨by rw [hQ.1, one_1 i0 i1 i2], hQ.2.1⟩
  subst hv
  refine ⟨n, _, h1, h2, h3, hpost _ _ _ _ _ _ ⟨Cond.after_iff.mpr rfl, Cond.after_iff.mpr (eq_i res_at (Term.int_eval (1)) rfl), trivial⟩ ⟨hq.1, hq.2.1, (hq.2.2.sift fun y hy => Or.inr (N y hy)).mono (by decide) (by decide)⟩⟩
theorem main_1_1 : Claimed_1_1 := comes_1 fun _ _ _ _ _ _ h hF => ⟨h.1, hF⟩
theorem main_1_2 : Claimed_1_2 := comes_1 fun _ _ _ _ _ _ h hF => ⟨h.2.1, hF⟩
end Jvm.Pilot.@@N@@
namespace Jvm.Pilot.@@N@@
open Jvm Jvm.ClassFile Sem Op Lib Jvm.Free Jvm.Stand Jvm.Pilot.@@N@@.Jvm.D
/-! MADE BY PROGRAM (witnessworld.py) out of the Statement's table words and the real class files: 12 classes; the members and pool entries that the words name. The judged class is class 1, her method 1. -/
namespace start1
open Jvm.ClassFile
def u (s : String) : CpInfo := .utf8 (stringToUtf16 s)
/-- a pool by its gaps: so many unusable entries, then the entry; so many at the end -/
def gap : Nat → List CpInfo → List CpInfo
  | 0, r => r
  | n + 1, r => .unusable :: gap n r
def poolList (es : List (Nat × CpInfo)) (last : Nat) : List CpInfo := es.foldr (fun e r => gap e.1 (e.2 :: r)) (gap last [])
def pool (es : List (Nat × CpInfo)) (last : Nat) : Array CpInfo := ⟨poolList es last⟩
def fileOf (pool : Array CpInfo) (this : Nat) (attrs : Array Attribute := #[]) (ms : Array MethodInfo := #[]) (fl : Nat := 33) (sup : Nat := 0) (ifs : Array Nat := #[]) (fds : Array FieldInfo := #[]) : ClassFile where
  minorVersion := 0
  majorVersion := 65
  constantPool := pool
  accessFlags := fl
  thisClass := this
  superClass := sup
  interfaces := ifs
  fields := fds
  methods := ms
  attributes := attrs
def plain (name : String) (sup : Option ClassId) : Class where
  name := name
  kind := .ordinary
  loader := none
  accessFlags := 33
  super := sup
  interfaces := #[]
  cf := none
  fields := #[]
  methods := #[]
  instanceTypes := #[]
  staticTypes := #[]
  resolved := #[]
  callSites := []
  init := .initialized
  statics := none
  mirror := none

def pool0 : Array CpInfo := pool [(5, u "<init>"), (0, u "()V"), (1, .class_ 10), (1, u "java/lang/Object")] 113

def k0m0 : Method := { name := "<init>", desc := "()V", sig := { parameters := [], returnType := none }, accessFlags := 1, code := none }
/-- java/lang/Object -/
def k0 : Class := { plain "java/lang/Object" none with
  accessFlags := 33
  interfaces := #[]
  cf := some (fileOf pool0 8 #[] #[{ accessFlags := 1, nameIndex := 5, descriptorIndex := 6, attributes := #[] }] 33 0 #[] #[])
  fields := #[]
  methods := #[k0m0]
  instanceTypes := #[]
  staticTypes := #[]
  resolved := Array.replicate 124 none
  statics := none }

def pool1 : Array CpInfo := pool [(2, .class_ 4), (1, u "java/lang/Object"), (0, u "<init>"), (0, u "()V"), (0, .methodref 8 9), (0, .class_ 10), (0, .nameAndType 11 12), (0, u "com/example/indexwright/indexwright/Unscaled"), (0, u "rescale"), (0, u "(JI)J"), (0, .methodref 14 15), (0, .class_ 16), (0, .nameAndType 17 12), (0, u "com/example/indexwright/indexwright/UnscaledRescalePinLaw"), (0, u "expected"), (2, .long 9223372036854775808), (1, .long 10), (1, .long 100), (1, .long 1000), (1, .long 10000), (1, .long 100000), (1, .long 1000000), (1, .long 10000000), (1, .long 100000000), (1, .long 1000000000), (1, .long 10000000000), (1, .long 100000000000), (1, .long 1000000000000), (1, .long 10000000000000), (1, .long 100000000000000), (1, .long 1000000000000000), (1, .long 10000000000000000), (1, .long 100000000000000000), (1, .long 1000000000000000000), (1, .long 9223372036854775807), (3, u "law"), (0, u "(JII)Z")] 5

def k1m0 : Method := { name := "<init>", desc := "()V", sig := { parameters := [], returnType := none }, accessFlags := 2, code := none }
def k1c1 : Code := { maxStack := 5, maxLocals := 9, code := code, exceptionTable := #[], attributes := #[] }
def k1m1 : Method := { name := "law", desc := "(JII)Z", sig := { parameters := [.long, .int, .int], returnType := some .boolean }, accessFlags := 9, code := some k1c1 }
def k1c2 : Code := { maxStack := 6, maxLocals := 6, code := method_3_code, exceptionTable := #[], attributes := #[] }
def k1m2 : Method := { name := "expected", desc := "(JI)J", sig := { parameters := [.long, .int], returnType := some .long }, accessFlags := 10, code := some k1c2 }
/-- com/example/indexwright/indexwright/UnscaledRescalePinLaw -/
def k1 : Class := { plain "com/example/indexwright/indexwright/UnscaledRescalePinLaw" (some 0) with
  accessFlags := 49
  interfaces := #[]
  cf := some (fileOf pool1 14 #[] #[{ accessFlags := 2, nameIndex := 5, descriptorIndex := 6, attributes := #[] }, { accessFlags := 9, nameIndex := 62, descriptorIndex := 63, attributes := #[] }, { accessFlags := 10, nameIndex := 17, descriptorIndex := 12, attributes := #[] }] 49 2 #[] #[])
  fields := #[]
  methods := #[k1m0, k1m1, k1m2]
  instanceTypes := #[]
  staticTypes := #[]
  resolved := Array.replicate 69 none
  statics := none }

def pool2 : Array CpInfo := pool [(4, .class_ 6), (1, u "java/lang/Object"), (0, u "<init>"), (0, u "()V"), (6, .class_ 16), (0, u "com/example/indexwright/indexwright/Unscaled"), (0, .long 9223372036854775808), (12, .fieldref 15 31), (0, .nameAndType 32 33), (0, u "POWERS_OF_TEN"), (0, u "[J"), (0, .methodref 35 36), (0, .class_ 37), (0, .nameAndType 38 39), (0, u "java/lang/Math"), (0, u "multiplyHigh"), (0, u "(JJ)J"), (0, .methodref 15 41), (0, .nameAndType 42 39), (0, u "product"), (6, u "TOO_LARGE"), (0, u "J"), (1, u "DIGITS"), (0, u "I"), (8, u "rescale"), (0, u "(JI)J")] 4

def k2m0 : Method := { name := "<init>", desc := "()V", sig := { parameters := [], returnType := none }, accessFlags := 2, code := none }
def k2c1 : Code := { maxStack := 5, maxLocals := 6, code := prog_9_method_4_code, exceptionTable := #[], attributes := #[] }
def k2m1 : Method := { name := "product", desc := "(JJ)J", sig := { parameters := [.long, .long], returnType := some .long }, accessFlags := 9, code := some k2c1 }
def k2c2 : Code := { maxStack := 4, maxLocals := 3, code := prog_9_method_5_code, exceptionTable := #[], attributes := #[] }
def k2m2 : Method := { name := "rescale", desc := "(JI)J", sig := { parameters := [.long, .int], returnType := some .long }, accessFlags := 9, code := some k2c2 }
/-- com/example/indexwright/indexwright/Unscaled -/
def k2 : Class := { plain "com/example/indexwright/indexwright/Unscaled" (some 0) with
  accessFlags := 49
  interfaces := #[]
  cf := some (fileOf pool2 15 #[] #[{ accessFlags := 2, nameIndex := 7, descriptorIndex := 8, attributes := #[] }, { accessFlags := 9, nameIndex := 42, descriptorIndex := 39, attributes := #[] }, { accessFlags := 9, nameIndex := 62, descriptorIndex := 63, attributes := #[] }] 49 4 #[] #[{ accessFlags := 25, nameIndex := 49, descriptorIndex := 50, attributes := #[] }, { accessFlags := 25, nameIndex := 52, descriptorIndex := 53, attributes := #[] }, { accessFlags := 26, nameIndex := 32, descriptorIndex := 33, attributes := #[] }])
  fields := #[{ name := "TOO_LARGE", type := .long, accessFlags := 25, slot := 0, constantValue := 0 }, { name := "DIGITS", type := .int, accessFlags := 25, slot := 1, constantValue := 0 }, { name := "POWERS_OF_TEN", type := (.array .long), accessFlags := 26, slot := 2, constantValue := 0 }]
  methods := #[k2m0, k2m1, k2m2]
  instanceTypes := #[]
  staticTypes := #[.long, .int, (.array .long)]
  resolved := Array.replicate 68 none
  statics := some 0 }

def pool3 : Array CpInfo := pool [(1, .class_ 2), (0, u "java/lang/Math"), (1, .class_ 6), (1, u "java/lang/Object"), (0, u "<init>"), (0, u "()V"), (89, .class_ 100), (1, u "java/lang/Math$RandomNumberGeneratorHolder"), (20, u "(JJ)J"), (16, .long 4294967295), (3, u "multiplyHigh"), (29, u "negativeZeroFloatBits"), (0, u "J"), (2, u "negativeZeroDoubleBits"), (68, u "$assertionsDisabled"), (0, u "Z"), (91, u "twoToTheDoubleScaleDown"), (0, u "D"), (4, u "twoToTheDoubleScaleUp"), (9, u "E"), (3, u "PI"), (2, u "TAU"), (2, u "DEGREES_TO_RADIANS"), (0, u "RADIANS_TO_DEGREES")] 94

def k3m0 : Method := { name := "<init>", desc := "()V", sig := { parameters := [], returnType := none }, accessFlags := 2, code := none }
def k3c1 : Code := { maxStack := 6, maxLocals := 20, code := jdk_29_method_45_code, exceptionTable := #[], attributes := #[] }
def k3m1 : Method := { name := "multiplyHigh", desc := "(JJ)J", sig := { parameters := [.long, .long], returnType := some .long }, accessFlags := 9, code := some k3c1 }
/-- java/lang/Math -/
def k3 : Class := { plain "java/lang/Math" (some 0) with
  accessFlags := 49
  interfaces := #[]
  cf := some (fileOf pool3 1 #[.nestMembers #[98]] #[{ accessFlags := 2, nameIndex := 7, descriptorIndex := 8, attributes := #[] }, { accessFlags := 9, nameIndex := 142, descriptorIndex := 121, attributes := #[] }] 49 4 #[] #[{ accessFlags := 25, nameIndex := 354, descriptorIndex := 339, attributes := #[] }, { accessFlags := 25, nameIndex := 358, descriptorIndex := 339, attributes := #[] }, { accessFlags := 25, nameIndex := 361, descriptorIndex := 339, attributes := #[] }, { accessFlags := 26, nameIndex := 364, descriptorIndex := 339, attributes := #[] }, { accessFlags := 26, nameIndex := 365, descriptorIndex := 339, attributes := #[] }, { accessFlags := 26, nameIndex := 172, descriptorIndex := 173, attributes := #[] }, { accessFlags := 26, nameIndex := 176, descriptorIndex := 173, attributes := #[] }, { accessFlags := 8, nameIndex := 344, descriptorIndex := 339, attributes := #[] }, { accessFlags := 8, nameIndex := 338, descriptorIndex := 339, attributes := #[] }, { accessFlags := 4120, nameIndex := 245, descriptorIndex := 246, attributes := #[] }])
  fields := #[{ name := "E", type := .double, accessFlags := 25, slot := 0, constantValue := 0 }, { name := "PI", type := .double, accessFlags := 25, slot := 1, constantValue := 0 }, { name := "TAU", type := .double, accessFlags := 25, slot := 2, constantValue := 0 }, { name := "DEGREES_TO_RADIANS", type := .double, accessFlags := 26, slot := 3, constantValue := 0 }, { name := "RADIANS_TO_DEGREES", type := .double, accessFlags := 26, slot := 4, constantValue := 0 }, { name := "negativeZeroFloatBits", type := .long, accessFlags := 26, slot := 5, constantValue := 0 }, { name := "negativeZeroDoubleBits", type := .long, accessFlags := 26, slot := 6, constantValue := 0 }, { name := "twoToTheDoubleScaleUp", type := .double, accessFlags := 8, slot := 7, constantValue := 0 }, { name := "twoToTheDoubleScaleDown", type := .double, accessFlags := 8, slot := 8, constantValue := 0 }, { name := "$assertionsDisabled", type := .boolean, accessFlags := 4120, slot := 9, constantValue := 0 }]
  methods := #[k3m0, k3m1]
  instanceTypes := #[]
  staticTypes := #[.double, .double, .double, .double, .double, .long, .long, .double, .double, .boolean]
  resolved := Array.replicate 460 none
  statics := none }

def pool4 : Array CpInfo := pool [(1, u "java/lang/Cloneable"), (0, .class_ 1), (0, u "java/lang/Object"), (0, .class_ 3)] 3

/-- java/lang/Cloneable -/
def k4 : Class := { plain "java/lang/Cloneable" (some 0) with
  accessFlags := 1537
  interfaces := #[]
  cf := some (fileOf pool4 2 #[] #[] 1537 4 #[] #[])
  fields := #[]
  methods := #[]
  instanceTypes := #[]
  staticTypes := #[]
  resolved := Array.replicate 8 none
  statics := none }

def pool5 : Array CpInfo := pool [(1, u "java/io/Serializable"), (0, .class_ 1), (0, u "java/lang/Object"), (0, .class_ 3)] 3

/-- java/io/Serializable -/
def k5 : Class := { plain "java/io/Serializable" (some 0) with
  accessFlags := 1537
  interfaces := #[]
  cf := some (fileOf pool5 2 #[] #[] 1537 4 #[] #[])
  fields := #[]
  methods := #[]
  instanceTypes := #[]
  staticTypes := #[]
  resolved := Array.replicate 8 none
  statics := none }

/-- the primitive byte -/
def k6 : Class := { plain "byte" none with kind := .primitive 'B', accessFlags := 0x411 }
/-- [B -/
def k7 : Class := { plain "[B" (some 0) with kind := .array 6 .byte, interfaces := #[4, 5], accessFlags := 1041 }

/-- the primitive int -/
def k8 : Class := { plain "int" none with kind := .primitive 'I', accessFlags := 0x411 }
/-- [I -/
def k9 : Class := { plain "[I" (some 0) with kind := .array 8 .int, interfaces := #[4, 5], accessFlags := 1041 }

/-- the primitive long -/
def k10 : Class := { plain "long" none with kind := .primitive 'J', accessFlags := 0x411 }
/-- [J -/
def k11 : Class := { plain "[J" (some 0) with kind := .array 10 .long, interfaces := #[4, 5], accessFlags := 1041 }

def heap : Heap := #[{ cls := 2, slots := #[.long 0, .int 0, .ref 1], vm := .statics 2 },
  { cls := 11, slots := #[.long 1, .long 10, .long 100, .long 1000, .long 10000, .long 100000, .long 1000000, .long 10000000, .long 100000000, .long 1000000000, .long 10000000000, .long 100000000000, .long 1000000000000, .long 10000000000000, .long 100000000000000, .long 1000000000000000, .long 10000000000000000, .long 100000000000000000, .long 1000000000000000000], vm := .none }]
def classes : Array Class := #[k0, k1, k2, k3, k4, k5, k6, k7, k8, k9, k10, k11]
def interned : List (Array UInt16 × Addr) := []
def slotsUsed : Nat := 22
def theMethod : MethodId := ⟨1, 1⟩
def args0 : Array Value := #[.long 5, .int 7, .int 3]
def aboutOver (below : List Frame) : State where
  vm := { classes := classes, interned := interned.toArray }
  heap := heap
  slotsUsed := slotsUsed
  threads := #[{ frames := .invoking theMethod args0 :: below }]
def below0 : List Frame := [.native { method := ⟨0, 0⟩, args := #[] }]
def about1 : State := aboutOver below0
def p0 : Program := .bare "" "" ""
def e0 : Env := launch0.env 0 0 0
theorem w_frames : about1.frames = Frame.invoking theMethod args0 :: below0 := rfl
set_option maxRecDepth 65536 in
theorem w_args : argsFit about1.vm theMethod args0 = true := by decide +kernel
set_option maxRecDepth 65536 in
theorem w_heap : heapFits about1 = true := by decide +kernel
set_option maxRecDepth 65536 in
theorem w_runnable : about1.curStatus? = some .runnable := by decide +kernel
set_option maxRecDepth 65536 in
theorem w_alone : about1.alone = true := by decide +kernel
set_option maxRecDepth 65536 in
theorem w_named : about1.methodNamed? x = some theMethod := by decide +kernel
set_option maxRecDepth 65536 in
theorem w_hears : about1.hears theMethod below0 = true := by decide +kernel
set_option maxRecDepth 65536 in
theorem w_ripe : about1.ripe theMethod args0 below0 = true := by decide +kernel
theorem w_running : about1.status = .running := rfl
set_option maxRecDepth 65536 in
theorem w_room : about1.hasRoom e0.platform room_1 = true :=
  launch0.hasRoom_least _ room_1 (by decide +kernel) (by decide +kernel) (by decide +kernel) (by decide +kernel) (by decide +kernel) (by decide +kernel)
theorem allAtoms_all (ts : List Jvm.Cond) (a : Array Jvm.Value) (st : Jvm.State) : (allAtoms ts).before a st = ts.all (fun c => c.before a st) := by
  induction ts with
  | nil => rfl
  | cons c t ih =>
    show (Jvm.Cond.and c (allAtoms t)).before a st = _
    rw [Jvm.Cond.before_and, ih, List.all_cons]
def words1 : List Jvm.Cond := Jvm.Cond.code x code maxLocals ret :: tables_1
/-- a 'code' word, met by the world's own term for the bytes: nothing is compared byte by byte -/
theorem code_word {y : MethodName} {bytes : ByteArray} {mx : Nat} {rt : Option FieldType} {a : Array Value} {s : State} {m : MethodId} {meth : Method} {c : Code} (h1 : s.methodNamed? y = some m) (h2 : s.vm.method? m = some meth) (h3 : meth.code = some c) (h4 : c.code = bytes)
    (h5 : (c.maxLocals == mx && c.exceptionTable.isEmpty && decide (c.maxStack ≤ mostOperands) && decide (meth.sig.returnType = rt) && !meth.locks && decide (parseMethodDescriptor y.desc = some meth.sig)) = true) : (Jvm.Cond.code y bytes mx rt).before a s = true := by
  simp only [Bool.and_eq_true, beq_iff_eq, Bool.not_eq_true', decide_eq_true_eq] at h5
  obtain ⟨⟨⟨⟨⟨g1, g2⟩, g3⟩, g4⟩, g5⟩, g6⟩ := h5
  simp [Cond.before, Cond.holds, Cond.value, h1, h2, h3, h4, g1, g2, g3, g4, g5, g6]
def isCode : Jvm.Cond → Bool
  | .code _ _ _ _ => true
  | _ => false
theorem all_split {L : List Jvm.Cond} {P : Jvm.Cond → Bool} (h1 : L.all (fun c => isCode c || P c) = true) (h2 : ∀ c ∈ L.filter isCode, P c = true) : L.all P = true := by
  refine List.all_eq_true.mpr fun c hc => ?_
  have h := List.all_eq_true.mp h1 c hc
  rcases Bool.eq_false_or_eq_true (isCode c) with hi | hi
  · exact h2 c (List.mem_filter.mpr ⟨hc, hi⟩)
  · simpa [hi] using h
set_option maxRecDepth 65536 in
theorem w_c0 : (Jvm.Cond.code x code maxLocals ret).before args0 about1 = true := code_word (m := ⟨1, 1⟩) (meth := k1m1) (c := k1c1) (by decide +kernel) rfl rfl rfl (by decide +kernel)
set_option maxRecDepth 65536 in
theorem w_c1 : (Jvm.Cond.code ({ cls := "com/example/indexwright/indexwright/Unscaled", name := "rescale", desc := "(JI)J" } : Jvm.MethodName) prog_9_method_5_code (3 : Nat) (Option.some Jvm.ClassFile.FieldType.long)).before args0 about1 = true := code_word (m := ⟨2, 2⟩) (meth := k2m2) (c := k2c2) (by decide +kernel) rfl rfl rfl (by decide +kernel)
set_option maxRecDepth 65536 in
theorem w_c2 : (Jvm.Cond.code ({ cls := "com/example/indexwright/indexwright/Unscaled", name := "product", desc := "(JJ)J" } : Jvm.MethodName) prog_9_method_4_code (6 : Nat) (Option.some Jvm.ClassFile.FieldType.long)).before args0 about1 = true := code_word (m := ⟨2, 1⟩) (meth := k2m1) (c := k2c1) (by decide +kernel) rfl rfl rfl (by decide +kernel)
set_option maxRecDepth 65536 in
theorem w_c3 : (Jvm.Cond.code ({ cls := "java/lang/Math", name := "multiplyHigh", desc := "(JJ)J" } : Jvm.MethodName) jdk_29_method_45_code (20 : Nat) (Option.some Jvm.ClassFile.FieldType.long)).before args0 about1 = true := code_word (m := ⟨3, 1⟩) (meth := k3m1) (c := k3c1) (by decide +kernel) rfl rfl rfl (by decide +kernel)
set_option maxRecDepth 65536 in
theorem w_c4 : (Jvm.Cond.code ({ cls := "com/example/indexwright/indexwright/UnscaledRescalePinLaw", name := "expected", desc := "(JI)J" } : Jvm.MethodName) method_3_code (6 : Nat) (Option.some Jvm.ClassFile.FieldType.long)).before args0 about1 = true := code_word (m := ⟨1, 2⟩) (meth := k1m2) (c := k1c2) (by decide +kernel) rfl rfl rfl (by decide +kernel)
def codes1 : List Jvm.Cond := [Jvm.Cond.code x code maxLocals ret, Jvm.Cond.code ({ cls := "com/example/indexwright/indexwright/Unscaled", name := "rescale", desc := "(JI)J" } : Jvm.MethodName) prog_9_method_5_code (3 : Nat) (Option.some Jvm.ClassFile.FieldType.long), Jvm.Cond.code ({ cls := "com/example/indexwright/indexwright/Unscaled", name := "product", desc := "(JJ)J" } : Jvm.MethodName) prog_9_method_4_code (6 : Nat) (Option.some Jvm.ClassFile.FieldType.long), Jvm.Cond.code ({ cls := "java/lang/Math", name := "multiplyHigh", desc := "(JJ)J" } : Jvm.MethodName) jdk_29_method_45_code (20 : Nat) (Option.some Jvm.ClassFile.FieldType.long), Jvm.Cond.code ({ cls := "com/example/indexwright/indexwright/UnscaledRescalePinLaw", name := "expected", desc := "(JI)J" } : Jvm.MethodName) method_3_code (6 : Nat) (Option.some Jvm.ClassFile.FieldType.long)]
set_option maxRecDepth 65536 in
theorem codes_eq : words1.filter isCode = codes1 := rfl
theorem w_codes : ∀ c ∈ words1.filter isCode, c.before args0 about1 = true := by
  rw [codes_eq]
  intro c hc
  simp only [codes1, List.mem_cons, List.not_mem_nil, or_false] at hc
  rcases hc with rfl | rfl | rfl | rfl | rfl
  · exact w_c0
  · exact w_c1
  · exact w_c2
  · exact w_c3
  · exact w_c4
set_option maxRecDepth 65536 in
theorem w_t1 : (words1.take 24).all (fun c => isCode c || c.before args0 about1) = true := by decide +kernel
set_option maxRecDepth 65536 in
theorem w_t2 : (words1.drop 24).all (fun c => isCode c || c.before args0 about1) = true := by decide +kernel
theorem w_tables : (allAtoms (Jvm.Cond.code x code maxLocals ret :: tables_1)).before args0 about1 = true := by
  rw [allAtoms_all]
  show words1.all (fun c => c.before args0 about1) = true
  refine all_split ?_ w_codes
  rw [← List.take_append_drop 24 words1, List.all_append, w_t1, w_t2]
  rfl
set_option maxRecDepth 65536 in
theorem w_case : (Jvm.Cond.and given_1 narrow_1).before args0 about1 = true := by decide +kernel
theorem w_applies : (headSpec (Jvm.Cond.code x code maxLocals ret :: tables_1) room_1).applies x e0.platform about1 = true :=
  (Spec.applies_iff w_frames).mpr ⟨w_running, w_runnable, w_alone, w_named, w_hears, w_ripe, w_room, w_tables⟩
theorem atStart : AtStart classFile x code maxLocals ret World_1 tables_1 room_1 Calls_1 rest_1 Pre_1 launch0 p0 e0 about1 theMethod args0 below0 :=
  ⟨lists_1, trivial, launch0.admits_env _ _ _, launch0.least_env, fairChoices_fair.cas, fairChoices_fair.clock, w_frames, w_args, w_heap, w_applies, trivial, trivial, w_case⟩
end start1
theorem witness_1 : WitnessClaimed_1 := ⟨start1.p0, start1.e0, start1.about1, start1.theMethod, start1.args0, start1.below0, start1.atStart⟩
end Jvm.Pilot.@@N@@
