import JvmDerived
import JvmDerived.Pilot.@@N@@Statement
import JvmDerived.Pilot.@@N@@Code
set_option linter.unusedVariables false
set_option linter.unusedSimpArgs false
namespace Jvm.RoadKit
open Sem ClassFile Op Lib Jvm.Stand Jvm.Free Jvm.LawKit
section New
variable {p : Program} {l : Launch} {e : Env} {R : Room} {s : State} {m : MethodId} {args : Array Value} {below : List Frame} {meth : Method} {c : Code} {T : State} {locs : List Loc} {cells slots : Nat}
theorem retI (X : Stand p l e R s m args below meth c T locs cells slots) (hx : p.tables.exec = Jvm.exec) {pc : Nat} {Ls : Array Slot} {z : Int32} {rest : List Value} (hret : meth.sig.returnType = some .int) (hd : decode c.code pc = .ok (.ireturn, 1)) {fs : List Frame}
    (hl : ∀ (f : JFrame) (acts : List Action), f.method = m → f.locked = none → f.entered = [] → (doReturn e (T.setTop f) acts (some (.int z))).1 = T.setFrames fs) : Steps p.tables e below (T.setTop (mkF m pc Ls (.int z :: rest))) (T.setFrames fs) := by
  have hm' : T.vm.method? m = some meth := X.method'
  have hn : narrow .int (.int z) = .int z := rfl
  show Steps p.tables e below (T.setTop { method := m, pc := pc, locals := Ls, stack := _ :: rest, locked := none }) _
  jvm_step X.here [X.here.top, hx, hd, hm', hret, hn]
  first | (intro acts; rw [hl _ acts rfl rfl rfl]) | rw [hl _ _ rfl rfl rfl]
  exact Steps.refl _
/-- from here the invocation comes to an end of which R holds -/
def Goes (p : Program) (e : Env) (below : List Frame) (cur : State) (R : State → Outcome → Prop) : Prop := ∃ s₂ o, Steps p.tables e below cur s₂ ∧ s₂.status = .running ∧ Ended s₂ below o ∧ R s₂ o
theorem Goes.via {cur next : State} {R : State → Outcome → Prop} (k : ∀ t, Steps p.tables e below next t → Steps p.tables e below cur t) (h : Goes p e below next R) : Goes p e below cur R := by
  obtain ⟨s₂, o, h1, h2⟩ := h
  exact ⟨s₂, o, k _ h1, h2⟩
end New
end Jvm.RoadKit
namespace Jvm.Pilot.@@N@@
open Jvm Jvm.ClassFile Sem Op Lib Jvm.Free Jvm.Stand Jvm.LawKit Jvm.RoadKit Bundle Jvm.Pilot.@@N@@.Jvm.D
theorem d2_0 : decode jdk_29_method_45_code 0 = .ok (.lload_n 0, 1) := by decide +kernel
theorem d2_1 : decode jdk_29_method_45_code 1 = .ok (.bipush 32, 2) := by decide +kernel
theorem d2_3 : decode jdk_29_method_45_code 3 = .ok (.lshr, 1) := by decide +kernel
theorem d2_4 : decode jdk_29_method_45_code 4 = .ok (.lstore 4, 2) := by decide +kernel
theorem d2_6 : decode jdk_29_method_45_code 6 = .ok (.lload_n 0, 1) := by decide +kernel
theorem d2_7 : decode jdk_29_method_45_code 7 = .ok (.ldc2_w 138, 3) := by decide +kernel
theorem d2_10 : decode jdk_29_method_45_code 10 = .ok (.land, 1) := by decide +kernel
theorem d2_11 : decode jdk_29_method_45_code 11 = .ok (.lstore 6, 2) := by decide +kernel
theorem d2_13 : decode jdk_29_method_45_code 13 = .ok (.lload_n 2, 1) := by decide +kernel
theorem d2_14 : decode jdk_29_method_45_code 14 = .ok (.bipush 32, 2) := by decide +kernel
theorem d2_16 : decode jdk_29_method_45_code 16 = .ok (.lshr, 1) := by decide +kernel
theorem d2_17 : decode jdk_29_method_45_code 17 = .ok (.lstore 8, 2) := by decide +kernel
theorem d2_19 : decode jdk_29_method_45_code 19 = .ok (.lload_n 2, 1) := by decide +kernel
theorem d2_20 : decode jdk_29_method_45_code 20 = .ok (.ldc2_w 138, 3) := by decide +kernel
theorem d2_23 : decode jdk_29_method_45_code 23 = .ok (.land, 1) := by decide +kernel
theorem d2_24 : decode jdk_29_method_45_code 24 = .ok (.lstore 10, 2) := by decide +kernel
theorem d2_26 : decode jdk_29_method_45_code 26 = .ok (.lload 6, 2) := by decide +kernel
theorem d2_28 : decode jdk_29_method_45_code 28 = .ok (.lload 10, 2) := by decide +kernel
theorem d2_30 : decode jdk_29_method_45_code 30 = .ok (.lmul, 1) := by decide +kernel
theorem d2_31 : decode jdk_29_method_45_code 31 = .ok (.lstore 12, 2) := by decide +kernel
theorem d2_33 : decode jdk_29_method_45_code 33 = .ok (.lload 4, 2) := by decide +kernel
theorem d2_35 : decode jdk_29_method_45_code 35 = .ok (.lload 10, 2) := by decide +kernel
theorem d2_37 : decode jdk_29_method_45_code 37 = .ok (.lmul, 1) := by decide +kernel
theorem d2_38 : decode jdk_29_method_45_code 38 = .ok (.lload 12, 2) := by decide +kernel
theorem d2_40 : decode jdk_29_method_45_code 40 = .ok (.bipush 32, 2) := by decide +kernel
theorem d2_42 : decode jdk_29_method_45_code 42 = .ok (.lushr, 1) := by decide +kernel
theorem d2_43 : decode jdk_29_method_45_code 43 = .ok (.ladd, 1) := by decide +kernel
theorem d2_44 : decode jdk_29_method_45_code 44 = .ok (.lstore 14, 2) := by decide +kernel
theorem d2_46 : decode jdk_29_method_45_code 46 = .ok (.lload 14, 2) := by decide +kernel
theorem d2_48 : decode jdk_29_method_45_code 48 = .ok (.ldc2_w 138, 3) := by decide +kernel
theorem d2_51 : decode jdk_29_method_45_code 51 = .ok (.land, 1) := by decide +kernel
theorem d2_52 : decode jdk_29_method_45_code 52 = .ok (.lstore 16, 2) := by decide +kernel
theorem d2_54 : decode jdk_29_method_45_code 54 = .ok (.lload 14, 2) := by decide +kernel
theorem d2_56 : decode jdk_29_method_45_code 56 = .ok (.bipush 32, 2) := by decide +kernel
theorem d2_58 : decode jdk_29_method_45_code 58 = .ok (.lshr, 1) := by decide +kernel
theorem d2_59 : decode jdk_29_method_45_code 59 = .ok (.lstore 18, 2) := by decide +kernel
theorem d2_61 : decode jdk_29_method_45_code 61 = .ok (.lload 16, 2) := by decide +kernel
theorem d2_63 : decode jdk_29_method_45_code 63 = .ok (.lload 6, 2) := by decide +kernel
theorem d2_65 : decode jdk_29_method_45_code 65 = .ok (.lload 8, 2) := by decide +kernel
theorem d2_67 : decode jdk_29_method_45_code 67 = .ok (.lmul, 1) := by decide +kernel
theorem d2_68 : decode jdk_29_method_45_code 68 = .ok (.ladd, 1) := by decide +kernel
theorem d2_69 : decode jdk_29_method_45_code 69 = .ok (.lstore 16, 2) := by decide +kernel
theorem d2_71 : decode jdk_29_method_45_code 71 = .ok (.lload 4, 2) := by decide +kernel
theorem d2_73 : decode jdk_29_method_45_code 73 = .ok (.lload 8, 2) := by decide +kernel
theorem d2_75 : decode jdk_29_method_45_code 75 = .ok (.lmul, 1) := by decide +kernel
theorem d2_76 : decode jdk_29_method_45_code 76 = .ok (.lload 18, 2) := by decide +kernel
theorem d2_78 : decode jdk_29_method_45_code 78 = .ok (.ladd, 1) := by decide +kernel
theorem d2_79 : decode jdk_29_method_45_code 79 = .ok (.lload 16, 2) := by decide +kernel
theorem d2_81 : decode jdk_29_method_45_code 81 = .ok (.bipush 32, 2) := by decide +kernel
theorem d2_83 : decode jdk_29_method_45_code 83 = .ok (.lshr, 1) := by decide +kernel
theorem d2_84 : decode jdk_29_method_45_code 84 = .ok (.ladd, 1) := by decide +kernel
theorem d2_85 : decode jdk_29_method_45_code 85 = .ok (.lreturn, 1) := by decide +kernel
theorem ef_2 (m : MethodId) (x0 : Int64) (x1 : Int64) : entryFrame m #[(.long x0), (.long x1)] 20 = mkF m 0 #[.val (.long x0), .second, .val (.long x1), .second, .unset, .unset, .unset, .unset, .unset, .unset, .unset, .unset, .unset, .unset, .unset, .unset, .unset, .unset, .unset, .unset] [] := by first | (simp [entryFrame, mkF, argsToLocals, Value.category]; done) | rfl
def v2_31_0 (q1 : Int64) (q2 : Int64) : Int64 := ((q1 &&& (4294967295 : Int64)) * (q2 &&& (4294967295 : Int64)))
def v2_44_1 (q1 : Int64) (q2 : Int64) : Int64 := (((q1 >>> ((32 : Int32) &&& 0x3f).toInt64) * (q2 &&& (4294967295 : Int64))) + (((v2_31_0 q1 q2).toUInt64 >>> ((32 : Int32) &&& 0x3f).toInt64.toUInt64).toInt64))
def v2_59_2 (q1 : Int64) (q2 : Int64) : Int64 := ((v2_44_1 q1 q2) >>> ((32 : Int32) &&& 0x3f).toInt64)
def v2_69_3 (q1 : Int64) (q2 : Int64) : Int64 := (((v2_44_1 q1 q2) &&& (4294967295 : Int64)) + ((q1 &&& (4294967295 : Int64)) * (q2 >>> ((32 : Int32) &&& 0x3f).toInt64)))
def f2 (q1 : Int64) (q2 : Int64) : Int64 :=
  ((((q1 >>> ((32 : Int32) &&& 0x3f).toInt64) * (q2 >>> ((32 : Int32) &&& 0x3f).toInt64)) + (v2_59_2 q1 q2)) + ((v2_69_3 q1 q2) >>> ((32 : Int32) &&& 0x3f).toInt64))
def Q2 (Z : State) (q1 : Int64) (q2 : Int64) (h0 : Heap) (n0 : Nat) (v : Option Value) (h : Heap) (L : List Loc) : Prop := v = some (.long (f2 q1 q2)) ∧ Fr n0 L ∧ h = h0
set_option maxRecDepth 65536 in
set_option maxHeartbeats 40000000 in
theorem rm2 (l : Launch) (Z : State) (a0 : Array Value) (hw : ∀ d ∈ tables_1, d.before a0 Z = true) (ws : List Jvm.Cond) (q1 : Int64) (q2 : Int64) (h0 : Heap) (n0 : Nat) (Z0 : n0 ≤ h0.size) :
    MetFree l (⟨"java/lang/Math", "multiplyHigh", "(JJ)J"⟩ : MethodName) (head1 (Jvm.Cond.code (⟨"java/lang/Math", "multiplyHigh", "(JJ)J"⟩ : MethodName) jdk_29_method_45_code 20 (some .long) :: ws) ({ frames := 0, cells := 0, slots := 0, locals := 0 } : Room)) (fun a U => a = #[(.long q1), (.long q2)] ∧ Z.Warmed39 U.vm ∧ U.heap = h0) (fun _ _ _ _ _ => True) (fun _ U o U' => ∃ v L, o = .returned v ∧ Q2 Z q1 q2 h0 n0 v U'.heap L ∧ FrameEnd U o U' L ({ frames := 0, cells := 0, slots := 0, locals := 0 } : Room).cells ({ frames := 0, cells := 0, slots := 0, locals := 0 } : Room).slots) := by
  refine MetFree.of_bodySF (Jvm.Free.JP.mathPlain rfl (by decide +kernel)) hisR ?_
  intro p e s m args below meth c s₁ Bd hml0 hP hK
  obtain ⟨rfl, hZ, hh⟩ := hP
  have hx := Bd.exec
  have hby := Bd.bytes
  have hml : c.maxLocals = 20 := hml0
  have hown : s.vm.findClass "java/lang/Math" = some m.cls := findClass_of_methodNamed Bd.named
  have hnm := (name_of_methodNamed Bd.named Bd.method).1
  have X0 : Stand p l e ({ frames := 0, cells := 0, slots := 0, locals := 0 } : Room) s m #[(.long q1), (.long q2)] below meth c s₁ [] 0 0 := Stand.of_body Bd
  have e0 : s₁.heap = h0 := by rw [← hh, Bd.state]; rfl
  have N0 := Fr.nil n0
  refine Goes.via (next := s₁.setTop (mkF m 0 #[.val (.long q1), .second, .val (.long q2), .second, .unset, .unset, .unset, .unset, .unset, .unset, .unset, .unset, .unset, .unset, .unset, .unset, .unset, .unset, .unset, .unset] [])) (fun t k => castTop (ef_2 m q1 q2) k) ?_
  refine Goes.via (fun t k => XS.lloadN X0.here hx rfl (hb hby d2_0) rfl k) ?_
  show Goes p e below (s₁.setTop (mkF m 1 #[.val (.long q1), .second, .val (.long q2), .second, .unset, .unset, .unset, .unset, .unset, .unset, .unset, .unset, .unset, .unset, .unset, .unset, .unset, .unset, .unset, .unset] [(.long q1)])) _
  refine Goes.via (fun t k => XS.bipush X0.here hx rfl (hb hby d2_1) k) ?_
  show Goes p e below (s₁.setTop (mkF m 3 #[.val (.long q1), .second, .val (.long q2), .second, .unset, .unset, .unset, .unset, .unset, .unset, .unset, .unset, .unset, .unset, .unset, .unset, .unset, .unset, .unset, .unset] [(.int (32 : Int32)), (.long q1)])) _
  refine Goes.via (fun t k => XS.lshr X0.here hx rfl (hb hby d2_3) rfl k) ?_
  show Goes p e below (s₁.setTop (mkF m 4 #[.val (.long q1), .second, .val (.long q2), .second, .unset, .unset, .unset, .unset, .unset, .unset, .unset, .unset, .unset, .unset, .unset, .unset, .unset, .unset, .unset, .unset] [(.long (q1 >>> ((32 : Int32) &&& 0x3f).toInt64))])) _
  refine Goes.via (fun t k => XS.lstore X0.here hx rfl (hb hby d2_4) rfl (l' := #[.val (.long q1), .second, .val (.long q2), .second, .val (.long (q1 >>> ((32 : Int32) &&& 0x3f).toInt64)), .second, .unset, .unset, .unset, .unset, .unset, .unset, .unset, .unset, .unset, .unset, .unset, .unset, .unset, .unset]) rfl k) ?_
  show Goes p e below (s₁.setTop (mkF m 6 #[.val (.long q1), .second, .val (.long q2), .second, .val (.long (q1 >>> ((32 : Int32) &&& 0x3f).toInt64)), .second, .unset, .unset, .unset, .unset, .unset, .unset, .unset, .unset, .unset, .unset, .unset, .unset, .unset, .unset] [])) _
  refine Goes.via (fun t k => XS.lloadN X0.here hx rfl (hb hby d2_6) rfl k) ?_
  show Goes p e below (s₁.setTop (mkF m 7 #[.val (.long q1), .second, .val (.long q2), .second, .val (.long (q1 >>> ((32 : Int32) &&& 0x3f).toInt64)), .second, .unset, .unset, .unset, .unset, .unset, .unset, .unset, .unset, .unset, .unset, .unset, .unset, .unset, .unset] [(.long q1)])) _
  refine Goes.via (fun t k => X0.ldc2Long hx hown (mvT hZ (hw _ (List.mem_of_getElem? (i := 9) rfl))) (g := (mkF m 7 #[.val (.long q1), .second, .val (.long q2), .second, .val (.long (q1 >>> ((32 : Int32) &&& 0x3f).toInt64)), .second, .unset, .unset, .unset, .unset, .unset, .unset, .unset, .unset, .unset, .unset, .unset, .unset, .unset, .unset] [(.long q1)])) rfl (hb hby d2_7) _ k) ?_
  show Goes p e below (s₁.setTop (mkF m 10 #[.val (.long q1), .second, .val (.long q2), .second, .val (.long (q1 >>> ((32 : Int32) &&& 0x3f).toInt64)), .second, .unset, .unset, .unset, .unset, .unset, .unset, .unset, .unset, .unset, .unset, .unset, .unset, .unset, .unset] [(.long (4294967295 : Int64)), (.long q1)])) _
  refine Goes.via (fun t k => XS.land X0.here hx rfl (hb hby d2_10) rfl k) ?_
  show Goes p e below (s₁.setTop (mkF m 11 #[.val (.long q1), .second, .val (.long q2), .second, .val (.long (q1 >>> ((32 : Int32) &&& 0x3f).toInt64)), .second, .unset, .unset, .unset, .unset, .unset, .unset, .unset, .unset, .unset, .unset, .unset, .unset, .unset, .unset] [(.long (q1 &&& (4294967295 : Int64)))])) _
  refine Goes.via (fun t k => XS.lstore X0.here hx rfl (hb hby d2_11) rfl (l' := #[.val (.long q1), .second, .val (.long q2), .second, .val (.long (q1 >>> ((32 : Int32) &&& 0x3f).toInt64)), .second, .val (.long (q1 &&& (4294967295 : Int64))), .second, .unset, .unset, .unset, .unset, .unset, .unset, .unset, .unset, .unset, .unset, .unset, .unset]) rfl k) ?_
  show Goes p e below (s₁.setTop (mkF m 13 #[.val (.long q1), .second, .val (.long q2), .second, .val (.long (q1 >>> ((32 : Int32) &&& 0x3f).toInt64)), .second, .val (.long (q1 &&& (4294967295 : Int64))), .second, .unset, .unset, .unset, .unset, .unset, .unset, .unset, .unset, .unset, .unset, .unset, .unset] [])) _
  refine Goes.via (fun t k => XS.lloadN X0.here hx rfl (hb hby d2_13) rfl k) ?_
  show Goes p e below (s₁.setTop (mkF m 14 #[.val (.long q1), .second, .val (.long q2), .second, .val (.long (q1 >>> ((32 : Int32) &&& 0x3f).toInt64)), .second, .val (.long (q1 &&& (4294967295 : Int64))), .second, .unset, .unset, .unset, .unset, .unset, .unset, .unset, .unset, .unset, .unset, .unset, .unset] [(.long q2)])) _
  refine Goes.via (fun t k => XS.bipush X0.here hx rfl (hb hby d2_14) k) ?_
  show Goes p e below (s₁.setTop (mkF m 16 #[.val (.long q1), .second, .val (.long q2), .second, .val (.long (q1 >>> ((32 : Int32) &&& 0x3f).toInt64)), .second, .val (.long (q1 &&& (4294967295 : Int64))), .second, .unset, .unset, .unset, .unset, .unset, .unset, .unset, .unset, .unset, .unset, .unset, .unset] [(.int (32 : Int32)), (.long q2)])) _
  refine Goes.via (fun t k => XS.lshr X0.here hx rfl (hb hby d2_16) rfl k) ?_
  show Goes p e below (s₁.setTop (mkF m 17 #[.val (.long q1), .second, .val (.long q2), .second, .val (.long (q1 >>> ((32 : Int32) &&& 0x3f).toInt64)), .second, .val (.long (q1 &&& (4294967295 : Int64))), .second, .unset, .unset, .unset, .unset, .unset, .unset, .unset, .unset, .unset, .unset, .unset, .unset] [(.long (q2 >>> ((32 : Int32) &&& 0x3f).toInt64))])) _
  refine Goes.via (fun t k => XS.lstore X0.here hx rfl (hb hby d2_17) rfl (l' := #[.val (.long q1), .second, .val (.long q2), .second, .val (.long (q1 >>> ((32 : Int32) &&& 0x3f).toInt64)), .second, .val (.long (q1 &&& (4294967295 : Int64))), .second, .val (.long (q2 >>> ((32 : Int32) &&& 0x3f).toInt64)), .second, .unset, .unset, .unset, .unset, .unset, .unset, .unset, .unset, .unset, .unset]) rfl k) ?_
  show Goes p e below (s₁.setTop (mkF m 19 #[.val (.long q1), .second, .val (.long q2), .second, .val (.long (q1 >>> ((32 : Int32) &&& 0x3f).toInt64)), .second, .val (.long (q1 &&& (4294967295 : Int64))), .second, .val (.long (q2 >>> ((32 : Int32) &&& 0x3f).toInt64)), .second, .unset, .unset, .unset, .unset, .unset, .unset, .unset, .unset, .unset, .unset] [])) _
  refine Goes.via (fun t k => XS.lloadN X0.here hx rfl (hb hby d2_19) rfl k) ?_
  show Goes p e below (s₁.setTop (mkF m 20 #[.val (.long q1), .second, .val (.long q2), .second, .val (.long (q1 >>> ((32 : Int32) &&& 0x3f).toInt64)), .second, .val (.long (q1 &&& (4294967295 : Int64))), .second, .val (.long (q2 >>> ((32 : Int32) &&& 0x3f).toInt64)), .second, .unset, .unset, .unset, .unset, .unset, .unset, .unset, .unset, .unset, .unset] [(.long q2)])) _
  refine Goes.via (fun t k => X0.ldc2Long hx hown (mvT hZ (hw _ (List.mem_of_getElem? (i := 9) rfl))) (g := (mkF m 20 #[.val (.long q1), .second, .val (.long q2), .second, .val (.long (q1 >>> ((32 : Int32) &&& 0x3f).toInt64)), .second, .val (.long (q1 &&& (4294967295 : Int64))), .second, .val (.long (q2 >>> ((32 : Int32) &&& 0x3f).toInt64)), .second, .unset, .unset, .unset, .unset, .unset, .unset, .unset, .unset, .unset, .unset] [(.long q2)])) rfl (hb hby d2_20) _ k) ?_
  show Goes p e below (s₁.setTop (mkF m 23 #[.val (.long q1), .second, .val (.long q2), .second, .val (.long (q1 >>> ((32 : Int32) &&& 0x3f).toInt64)), .second, .val (.long (q1 &&& (4294967295 : Int64))), .second, .val (.long (q2 >>> ((32 : Int32) &&& 0x3f).toInt64)), .second, .unset, .unset, .unset, .unset, .unset, .unset, .unset, .unset, .unset, .unset] [(.long (4294967295 : Int64)), (.long q2)])) _
  refine Goes.via (fun t k => XS.land X0.here hx rfl (hb hby d2_23) rfl k) ?_
  show Goes p e below (s₁.setTop (mkF m 24 #[.val (.long q1), .second, .val (.long q2), .second, .val (.long (q1 >>> ((32 : Int32) &&& 0x3f).toInt64)), .second, .val (.long (q1 &&& (4294967295 : Int64))), .second, .val (.long (q2 >>> ((32 : Int32) &&& 0x3f).toInt64)), .second, .unset, .unset, .unset, .unset, .unset, .unset, .unset, .unset, .unset, .unset] [(.long (q2 &&& (4294967295 : Int64)))])) _
  refine Goes.via (fun t k => XS.lstore X0.here hx rfl (hb hby d2_24) rfl (l' := #[.val (.long q1), .second, .val (.long q2), .second, .val (.long (q1 >>> ((32 : Int32) &&& 0x3f).toInt64)), .second, .val (.long (q1 &&& (4294967295 : Int64))), .second, .val (.long (q2 >>> ((32 : Int32) &&& 0x3f).toInt64)), .second, .val (.long (q2 &&& (4294967295 : Int64))), .second, .unset, .unset, .unset, .unset, .unset, .unset, .unset, .unset]) rfl k) ?_
  show Goes p e below (s₁.setTop (mkF m 26 #[.val (.long q1), .second, .val (.long q2), .second, .val (.long (q1 >>> ((32 : Int32) &&& 0x3f).toInt64)), .second, .val (.long (q1 &&& (4294967295 : Int64))), .second, .val (.long (q2 >>> ((32 : Int32) &&& 0x3f).toInt64)), .second, .val (.long (q2 &&& (4294967295 : Int64))), .second, .unset, .unset, .unset, .unset, .unset, .unset, .unset, .unset] [])) _
  refine Goes.via (fun t k => XS.lload X0.here hx rfl (hb hby d2_26) rfl k) ?_
  show Goes p e below (s₁.setTop (mkF m 28 #[.val (.long q1), .second, .val (.long q2), .second, .val (.long (q1 >>> ((32 : Int32) &&& 0x3f).toInt64)), .second, .val (.long (q1 &&& (4294967295 : Int64))), .second, .val (.long (q2 >>> ((32 : Int32) &&& 0x3f).toInt64)), .second, .val (.long (q2 &&& (4294967295 : Int64))), .second, .unset, .unset, .unset, .unset, .unset, .unset, .unset, .unset] [(.long (q1 &&& (4294967295 : Int64)))])) _
  refine Goes.via (fun t k => XS.lload X0.here hx rfl (hb hby d2_28) rfl k) ?_
  show Goes p e below (s₁.setTop (mkF m 30 #[.val (.long q1), .second, .val (.long q2), .second, .val (.long (q1 >>> ((32 : Int32) &&& 0x3f).toInt64)), .second, .val (.long (q1 &&& (4294967295 : Int64))), .second, .val (.long (q2 >>> ((32 : Int32) &&& 0x3f).toInt64)), .second, .val (.long (q2 &&& (4294967295 : Int64))), .second, .unset, .unset, .unset, .unset, .unset, .unset, .unset, .unset] [(.long (q2 &&& (4294967295 : Int64))), (.long (q1 &&& (4294967295 : Int64)))])) _
  refine Goes.via (fun t k => XS.lmul X0.here hx rfl (hb hby d2_30) rfl k) ?_
  show Goes p e below (s₁.setTop (mkF m 31 #[.val (.long q1), .second, .val (.long q2), .second, .val (.long (q1 >>> ((32 : Int32) &&& 0x3f).toInt64)), .second, .val (.long (q1 &&& (4294967295 : Int64))), .second, .val (.long (q2 >>> ((32 : Int32) &&& 0x3f).toInt64)), .second, .val (.long (q2 &&& (4294967295 : Int64))), .second, .unset, .unset, .unset, .unset, .unset, .unset, .unset, .unset] [(.long ((q1 &&& (4294967295 : Int64)) * (q2 &&& (4294967295 : Int64))))])) _
  refine Goes.via (fun t k => XS.lstore X0.here hx rfl (hb hby d2_31) rfl (l' := #[.val (.long q1), .second, .val (.long q2), .second, .val (.long (q1 >>> ((32 : Int32) &&& 0x3f).toInt64)), .second, .val (.long (q1 &&& (4294967295 : Int64))), .second, .val (.long (q2 >>> ((32 : Int32) &&& 0x3f).toInt64)), .second, .val (.long (q2 &&& (4294967295 : Int64))), .second, .val (.long (v2_31_0 q1 q2)), .second, .unset, .unset, .unset, .unset, .unset, .unset]) rfl k) ?_
  show Goes p e below (s₁.setTop (mkF m 33 #[.val (.long q1), .second, .val (.long q2), .second, .val (.long (q1 >>> ((32 : Int32) &&& 0x3f).toInt64)), .second, .val (.long (q1 &&& (4294967295 : Int64))), .second, .val (.long (q2 >>> ((32 : Int32) &&& 0x3f).toInt64)), .second, .val (.long (q2 &&& (4294967295 : Int64))), .second, .val (.long (v2_31_0 q1 q2)), .second, .unset, .unset, .unset, .unset, .unset, .unset] [])) _
  refine Goes.via (fun t k => XS.lload X0.here hx rfl (hb hby d2_33) rfl k) ?_
  show Goes p e below (s₁.setTop (mkF m 35 #[.val (.long q1), .second, .val (.long q2), .second, .val (.long (q1 >>> ((32 : Int32) &&& 0x3f).toInt64)), .second, .val (.long (q1 &&& (4294967295 : Int64))), .second, .val (.long (q2 >>> ((32 : Int32) &&& 0x3f).toInt64)), .second, .val (.long (q2 &&& (4294967295 : Int64))), .second, .val (.long (v2_31_0 q1 q2)), .second, .unset, .unset, .unset, .unset, .unset, .unset] [(.long (q1 >>> ((32 : Int32) &&& 0x3f).toInt64))])) _
  refine Goes.via (fun t k => XS.lload X0.here hx rfl (hb hby d2_35) rfl k) ?_
  show Goes p e below (s₁.setTop (mkF m 37 #[.val (.long q1), .second, .val (.long q2), .second, .val (.long (q1 >>> ((32 : Int32) &&& 0x3f).toInt64)), .second, .val (.long (q1 &&& (4294967295 : Int64))), .second, .val (.long (q2 >>> ((32 : Int32) &&& 0x3f).toInt64)), .second, .val (.long (q2 &&& (4294967295 : Int64))), .second, .val (.long (v2_31_0 q1 q2)), .second, .unset, .unset, .unset, .unset, .unset, .unset] [(.long (q2 &&& (4294967295 : Int64))), (.long (q1 >>> ((32 : Int32) &&& 0x3f).toInt64))])) _
  refine Goes.via (fun t k => XS.lmul X0.here hx rfl (hb hby d2_37) rfl k) ?_
  show Goes p e below (s₁.setTop (mkF m 38 #[.val (.long q1), .second, .val (.long q2), .second, .val (.long (q1 >>> ((32 : Int32) &&& 0x3f).toInt64)), .second, .val (.long (q1 &&& (4294967295 : Int64))), .second, .val (.long (q2 >>> ((32 : Int32) &&& 0x3f).toInt64)), .second, .val (.long (q2 &&& (4294967295 : Int64))), .second, .val (.long (v2_31_0 q1 q2)), .second, .unset, .unset, .unset, .unset, .unset, .unset] [(.long ((q1 >>> ((32 : Int32) &&& 0x3f).toInt64) * (q2 &&& (4294967295 : Int64))))])) _
  refine Goes.via (fun t k => XS.lload X0.here hx rfl (hb hby d2_38) rfl k) ?_
  show Goes p e below (s₁.setTop (mkF m 40 #[.val (.long q1), .second, .val (.long q2), .second, .val (.long (q1 >>> ((32 : Int32) &&& 0x3f).toInt64)), .second, .val (.long (q1 &&& (4294967295 : Int64))), .second, .val (.long (q2 >>> ((32 : Int32) &&& 0x3f).toInt64)), .second, .val (.long (q2 &&& (4294967295 : Int64))), .second, .val (.long (v2_31_0 q1 q2)), .second, .unset, .unset, .unset, .unset, .unset, .unset] [(.long (v2_31_0 q1 q2)), (.long ((q1 >>> ((32 : Int32) &&& 0x3f).toInt64) * (q2 &&& (4294967295 : Int64))))])) _
  refine Goes.via (fun t k => XS.bipush X0.here hx rfl (hb hby d2_40) k) ?_
  show Goes p e below (s₁.setTop (mkF m 42 #[.val (.long q1), .second, .val (.long q2), .second, .val (.long (q1 >>> ((32 : Int32) &&& 0x3f).toInt64)), .second, .val (.long (q1 &&& (4294967295 : Int64))), .second, .val (.long (q2 >>> ((32 : Int32) &&& 0x3f).toInt64)), .second, .val (.long (q2 &&& (4294967295 : Int64))), .second, .val (.long (v2_31_0 q1 q2)), .second, .unset, .unset, .unset, .unset, .unset, .unset] [(.int (32 : Int32)), (.long (v2_31_0 q1 q2)), (.long ((q1 >>> ((32 : Int32) &&& 0x3f).toInt64) * (q2 &&& (4294967295 : Int64))))])) _
  refine Goes.via (fun t k => XS.lushr X0.here hx rfl (hb hby d2_42) rfl k) ?_
  show Goes p e below (s₁.setTop (mkF m 43 #[.val (.long q1), .second, .val (.long q2), .second, .val (.long (q1 >>> ((32 : Int32) &&& 0x3f).toInt64)), .second, .val (.long (q1 &&& (4294967295 : Int64))), .second, .val (.long (q2 >>> ((32 : Int32) &&& 0x3f).toInt64)), .second, .val (.long (q2 &&& (4294967295 : Int64))), .second, .val (.long (v2_31_0 q1 q2)), .second, .unset, .unset, .unset, .unset, .unset, .unset] [(.long (((v2_31_0 q1 q2).toUInt64 >>> ((32 : Int32) &&& 0x3f).toInt64.toUInt64).toInt64)), (.long ((q1 >>> ((32 : Int32) &&& 0x3f).toInt64) * (q2 &&& (4294967295 : Int64))))])) _
  refine Goes.via (fun t k => XS.ladd X0.here hx rfl (hb hby d2_43) rfl k) ?_
  show Goes p e below (s₁.setTop (mkF m 44 #[.val (.long q1), .second, .val (.long q2), .second, .val (.long (q1 >>> ((32 : Int32) &&& 0x3f).toInt64)), .second, .val (.long (q1 &&& (4294967295 : Int64))), .second, .val (.long (q2 >>> ((32 : Int32) &&& 0x3f).toInt64)), .second, .val (.long (q2 &&& (4294967295 : Int64))), .second, .val (.long (v2_31_0 q1 q2)), .second, .unset, .unset, .unset, .unset, .unset, .unset] [(.long (((q1 >>> ((32 : Int32) &&& 0x3f).toInt64) * (q2 &&& (4294967295 : Int64))) + (((v2_31_0 q1 q2).toUInt64 >>> ((32 : Int32) &&& 0x3f).toInt64.toUInt64).toInt64)))])) _
  refine Goes.via (fun t k => XS.lstore X0.here hx rfl (hb hby d2_44) rfl (l' := #[.val (.long q1), .second, .val (.long q2), .second, .val (.long (q1 >>> ((32 : Int32) &&& 0x3f).toInt64)), .second, .val (.long (q1 &&& (4294967295 : Int64))), .second, .val (.long (q2 >>> ((32 : Int32) &&& 0x3f).toInt64)), .second, .val (.long (q2 &&& (4294967295 : Int64))), .second, .val (.long (v2_31_0 q1 q2)), .second, .val (.long (v2_44_1 q1 q2)), .second, .unset, .unset, .unset, .unset]) rfl k) ?_
  show Goes p e below (s₁.setTop (mkF m 46 #[.val (.long q1), .second, .val (.long q2), .second, .val (.long (q1 >>> ((32 : Int32) &&& 0x3f).toInt64)), .second, .val (.long (q1 &&& (4294967295 : Int64))), .second, .val (.long (q2 >>> ((32 : Int32) &&& 0x3f).toInt64)), .second, .val (.long (q2 &&& (4294967295 : Int64))), .second, .val (.long (v2_31_0 q1 q2)), .second, .val (.long (v2_44_1 q1 q2)), .second, .unset, .unset, .unset, .unset] [])) _
  refine Goes.via (fun t k => XS.lload X0.here hx rfl (hb hby d2_46) rfl k) ?_
  show Goes p e below (s₁.setTop (mkF m 48 #[.val (.long q1), .second, .val (.long q2), .second, .val (.long (q1 >>> ((32 : Int32) &&& 0x3f).toInt64)), .second, .val (.long (q1 &&& (4294967295 : Int64))), .second, .val (.long (q2 >>> ((32 : Int32) &&& 0x3f).toInt64)), .second, .val (.long (q2 &&& (4294967295 : Int64))), .second, .val (.long (v2_31_0 q1 q2)), .second, .val (.long (v2_44_1 q1 q2)), .second, .unset, .unset, .unset, .unset] [(.long (v2_44_1 q1 q2))])) _
  refine Goes.via (fun t k => X0.ldc2Long hx hown (mvT hZ (hw _ (List.mem_of_getElem? (i := 9) rfl))) (g := (mkF m 48 #[.val (.long q1), .second, .val (.long q2), .second, .val (.long (q1 >>> ((32 : Int32) &&& 0x3f).toInt64)), .second, .val (.long (q1 &&& (4294967295 : Int64))), .second, .val (.long (q2 >>> ((32 : Int32) &&& 0x3f).toInt64)), .second, .val (.long (q2 &&& (4294967295 : Int64))), .second, .val (.long (v2_31_0 q1 q2)), .second, .val (.long (v2_44_1 q1 q2)), .second, .unset, .unset, .unset, .unset] [(.long (v2_44_1 q1 q2))])) rfl (hb hby d2_48) _ k) ?_
  show Goes p e below (s₁.setTop (mkF m 51 #[.val (.long q1), .second, .val (.long q2), .second, .val (.long (q1 >>> ((32 : Int32) &&& 0x3f).toInt64)), .second, .val (.long (q1 &&& (4294967295 : Int64))), .second, .val (.long (q2 >>> ((32 : Int32) &&& 0x3f).toInt64)), .second, .val (.long (q2 &&& (4294967295 : Int64))), .second, .val (.long (v2_31_0 q1 q2)), .second, .val (.long (v2_44_1 q1 q2)), .second, .unset, .unset, .unset, .unset] [(.long (4294967295 : Int64)), (.long (v2_44_1 q1 q2))])) _
  refine Goes.via (fun t k => XS.land X0.here hx rfl (hb hby d2_51) rfl k) ?_
  show Goes p e below (s₁.setTop (mkF m 52 #[.val (.long q1), .second, .val (.long q2), .second, .val (.long (q1 >>> ((32 : Int32) &&& 0x3f).toInt64)), .second, .val (.long (q1 &&& (4294967295 : Int64))), .second, .val (.long (q2 >>> ((32 : Int32) &&& 0x3f).toInt64)), .second, .val (.long (q2 &&& (4294967295 : Int64))), .second, .val (.long (v2_31_0 q1 q2)), .second, .val (.long (v2_44_1 q1 q2)), .second, .unset, .unset, .unset, .unset] [(.long ((v2_44_1 q1 q2) &&& (4294967295 : Int64)))])) _
  refine Goes.via (fun t k => XS.lstore X0.here hx rfl (hb hby d2_52) rfl (l' := #[.val (.long q1), .second, .val (.long q2), .second, .val (.long (q1 >>> ((32 : Int32) &&& 0x3f).toInt64)), .second, .val (.long (q1 &&& (4294967295 : Int64))), .second, .val (.long (q2 >>> ((32 : Int32) &&& 0x3f).toInt64)), .second, .val (.long (q2 &&& (4294967295 : Int64))), .second, .val (.long (v2_31_0 q1 q2)), .second, .val (.long (v2_44_1 q1 q2)), .second, .val (.long ((v2_44_1 q1 q2) &&& (4294967295 : Int64))), .second, .unset, .unset]) rfl k) ?_
  show Goes p e below (s₁.setTop (mkF m 54 #[.val (.long q1), .second, .val (.long q2), .second, .val (.long (q1 >>> ((32 : Int32) &&& 0x3f).toInt64)), .second, .val (.long (q1 &&& (4294967295 : Int64))), .second, .val (.long (q2 >>> ((32 : Int32) &&& 0x3f).toInt64)), .second, .val (.long (q2 &&& (4294967295 : Int64))), .second, .val (.long (v2_31_0 q1 q2)), .second, .val (.long (v2_44_1 q1 q2)), .second, .val (.long ((v2_44_1 q1 q2) &&& (4294967295 : Int64))), .second, .unset, .unset] [])) _
  refine Goes.via (fun t k => XS.lload X0.here hx rfl (hb hby d2_54) rfl k) ?_
  show Goes p e below (s₁.setTop (mkF m 56 #[.val (.long q1), .second, .val (.long q2), .second, .val (.long (q1 >>> ((32 : Int32) &&& 0x3f).toInt64)), .second, .val (.long (q1 &&& (4294967295 : Int64))), .second, .val (.long (q2 >>> ((32 : Int32) &&& 0x3f).toInt64)), .second, .val (.long (q2 &&& (4294967295 : Int64))), .second, .val (.long (v2_31_0 q1 q2)), .second, .val (.long (v2_44_1 q1 q2)), .second, .val (.long ((v2_44_1 q1 q2) &&& (4294967295 : Int64))), .second, .unset, .unset] [(.long (v2_44_1 q1 q2))])) _
  refine Goes.via (fun t k => XS.bipush X0.here hx rfl (hb hby d2_56) k) ?_
  show Goes p e below (s₁.setTop (mkF m 58 #[.val (.long q1), .second, .val (.long q2), .second, .val (.long (q1 >>> ((32 : Int32) &&& 0x3f).toInt64)), .second, .val (.long (q1 &&& (4294967295 : Int64))), .second, .val (.long (q2 >>> ((32 : Int32) &&& 0x3f).toInt64)), .second, .val (.long (q2 &&& (4294967295 : Int64))), .second, .val (.long (v2_31_0 q1 q2)), .second, .val (.long (v2_44_1 q1 q2)), .second, .val (.long ((v2_44_1 q1 q2) &&& (4294967295 : Int64))), .second, .unset, .unset] [(.int (32 : Int32)), (.long (v2_44_1 q1 q2))])) _
  refine Goes.via (fun t k => XS.lshr X0.here hx rfl (hb hby d2_58) rfl k) ?_
  show Goes p e below (s₁.setTop (mkF m 59 #[.val (.long q1), .second, .val (.long q2), .second, .val (.long (q1 >>> ((32 : Int32) &&& 0x3f).toInt64)), .second, .val (.long (q1 &&& (4294967295 : Int64))), .second, .val (.long (q2 >>> ((32 : Int32) &&& 0x3f).toInt64)), .second, .val (.long (q2 &&& (4294967295 : Int64))), .second, .val (.long (v2_31_0 q1 q2)), .second, .val (.long (v2_44_1 q1 q2)), .second, .val (.long ((v2_44_1 q1 q2) &&& (4294967295 : Int64))), .second, .unset, .unset] [(.long ((v2_44_1 q1 q2) >>> ((32 : Int32) &&& 0x3f).toInt64))])) _
  refine Goes.via (fun t k => XS.lstore X0.here hx rfl (hb hby d2_59) rfl (l' := #[.val (.long q1), .second, .val (.long q2), .second, .val (.long (q1 >>> ((32 : Int32) &&& 0x3f).toInt64)), .second, .val (.long (q1 &&& (4294967295 : Int64))), .second, .val (.long (q2 >>> ((32 : Int32) &&& 0x3f).toInt64)), .second, .val (.long (q2 &&& (4294967295 : Int64))), .second, .val (.long (v2_31_0 q1 q2)), .second, .val (.long (v2_44_1 q1 q2)), .second, .val (.long ((v2_44_1 q1 q2) &&& (4294967295 : Int64))), .second, .val (.long (v2_59_2 q1 q2)), .second]) rfl k) ?_
  show Goes p e below (s₁.setTop (mkF m 61 #[.val (.long q1), .second, .val (.long q2), .second, .val (.long (q1 >>> ((32 : Int32) &&& 0x3f).toInt64)), .second, .val (.long (q1 &&& (4294967295 : Int64))), .second, .val (.long (q2 >>> ((32 : Int32) &&& 0x3f).toInt64)), .second, .val (.long (q2 &&& (4294967295 : Int64))), .second, .val (.long (v2_31_0 q1 q2)), .second, .val (.long (v2_44_1 q1 q2)), .second, .val (.long ((v2_44_1 q1 q2) &&& (4294967295 : Int64))), .second, .val (.long (v2_59_2 q1 q2)), .second] [])) _
  refine Goes.via (fun t k => XS.lload X0.here hx rfl (hb hby d2_61) rfl k) ?_
  show Goes p e below (s₁.setTop (mkF m 63 #[.val (.long q1), .second, .val (.long q2), .second, .val (.long (q1 >>> ((32 : Int32) &&& 0x3f).toInt64)), .second, .val (.long (q1 &&& (4294967295 : Int64))), .second, .val (.long (q2 >>> ((32 : Int32) &&& 0x3f).toInt64)), .second, .val (.long (q2 &&& (4294967295 : Int64))), .second, .val (.long (v2_31_0 q1 q2)), .second, .val (.long (v2_44_1 q1 q2)), .second, .val (.long ((v2_44_1 q1 q2) &&& (4294967295 : Int64))), .second, .val (.long (v2_59_2 q1 q2)), .second] [(.long ((v2_44_1 q1 q2) &&& (4294967295 : Int64)))])) _
  refine Goes.via (fun t k => XS.lload X0.here hx rfl (hb hby d2_63) rfl k) ?_
  show Goes p e below (s₁.setTop (mkF m 65 #[.val (.long q1), .second, .val (.long q2), .second, .val (.long (q1 >>> ((32 : Int32) &&& 0x3f).toInt64)), .second, .val (.long (q1 &&& (4294967295 : Int64))), .second, .val (.long (q2 >>> ((32 : Int32) &&& 0x3f).toInt64)), .second, .val (.long (q2 &&& (4294967295 : Int64))), .second, .val (.long (v2_31_0 q1 q2)), .second, .val (.long (v2_44_1 q1 q2)), .second, .val (.long ((v2_44_1 q1 q2) &&& (4294967295 : Int64))), .second, .val (.long (v2_59_2 q1 q2)), .second] [(.long (q1 &&& (4294967295 : Int64))), (.long ((v2_44_1 q1 q2) &&& (4294967295 : Int64)))])) _
  refine Goes.via (fun t k => XS.lload X0.here hx rfl (hb hby d2_65) rfl k) ?_
  show Goes p e below (s₁.setTop (mkF m 67 #[.val (.long q1), .second, .val (.long q2), .second, .val (.long (q1 >>> ((32 : Int32) &&& 0x3f).toInt64)), .second, .val (.long (q1 &&& (4294967295 : Int64))), .second, .val (.long (q2 >>> ((32 : Int32) &&& 0x3f).toInt64)), .second, .val (.long (q2 &&& (4294967295 : Int64))), .second, .val (.long (v2_31_0 q1 q2)), .second, .val (.long (v2_44_1 q1 q2)), .second, .val (.long ((v2_44_1 q1 q2) &&& (4294967295 : Int64))), .second, .val (.long (v2_59_2 q1 q2)), .second] [(.long (q2 >>> ((32 : Int32) &&& 0x3f).toInt64)), (.long (q1 &&& (4294967295 : Int64))), (.long ((v2_44_1 q1 q2) &&& (4294967295 : Int64)))])) _
  refine Goes.via (fun t k => XS.lmul X0.here hx rfl (hb hby d2_67) rfl k) ?_
  show Goes p e below (s₁.setTop (mkF m 68 #[.val (.long q1), .second, .val (.long q2), .second, .val (.long (q1 >>> ((32 : Int32) &&& 0x3f).toInt64)), .second, .val (.long (q1 &&& (4294967295 : Int64))), .second, .val (.long (q2 >>> ((32 : Int32) &&& 0x3f).toInt64)), .second, .val (.long (q2 &&& (4294967295 : Int64))), .second, .val (.long (v2_31_0 q1 q2)), .second, .val (.long (v2_44_1 q1 q2)), .second, .val (.long ((v2_44_1 q1 q2) &&& (4294967295 : Int64))), .second, .val (.long (v2_59_2 q1 q2)), .second] [(.long ((q1 &&& (4294967295 : Int64)) * (q2 >>> ((32 : Int32) &&& 0x3f).toInt64))), (.long ((v2_44_1 q1 q2) &&& (4294967295 : Int64)))])) _
  refine Goes.via (fun t k => XS.ladd X0.here hx rfl (hb hby d2_68) rfl k) ?_
  show Goes p e below (s₁.setTop (mkF m 69 #[.val (.long q1), .second, .val (.long q2), .second, .val (.long (q1 >>> ((32 : Int32) &&& 0x3f).toInt64)), .second, .val (.long (q1 &&& (4294967295 : Int64))), .second, .val (.long (q2 >>> ((32 : Int32) &&& 0x3f).toInt64)), .second, .val (.long (q2 &&& (4294967295 : Int64))), .second, .val (.long (v2_31_0 q1 q2)), .second, .val (.long (v2_44_1 q1 q2)), .second, .val (.long ((v2_44_1 q1 q2) &&& (4294967295 : Int64))), .second, .val (.long (v2_59_2 q1 q2)), .second] [(.long (((v2_44_1 q1 q2) &&& (4294967295 : Int64)) + ((q1 &&& (4294967295 : Int64)) * (q2 >>> ((32 : Int32) &&& 0x3f).toInt64))))])) _
  refine Goes.via (fun t k => XS.lstore X0.here hx rfl (hb hby d2_69) rfl (l' := #[.val (.long q1), .second, .val (.long q2), .second, .val (.long (q1 >>> ((32 : Int32) &&& 0x3f).toInt64)), .second, .val (.long (q1 &&& (4294967295 : Int64))), .second, .val (.long (q2 >>> ((32 : Int32) &&& 0x3f).toInt64)), .second, .val (.long (q2 &&& (4294967295 : Int64))), .second, .val (.long (v2_31_0 q1 q2)), .second, .val (.long (v2_44_1 q1 q2)), .second, .val (.long (v2_69_3 q1 q2)), .second, .val (.long (v2_59_2 q1 q2)), .second]) rfl k) ?_
  show Goes p e below (s₁.setTop (mkF m 71 #[.val (.long q1), .second, .val (.long q2), .second, .val (.long (q1 >>> ((32 : Int32) &&& 0x3f).toInt64)), .second, .val (.long (q1 &&& (4294967295 : Int64))), .second, .val (.long (q2 >>> ((32 : Int32) &&& 0x3f).toInt64)), .second, .val (.long (q2 &&& (4294967295 : Int64))), .second, .val (.long (v2_31_0 q1 q2)), .second, .val (.long (v2_44_1 q1 q2)), .second, .val (.long (v2_69_3 q1 q2)), .second, .val (.long (v2_59_2 q1 q2)), .second] [])) _
  refine Goes.via (fun t k => XS.lload X0.here hx rfl (hb hby d2_71) rfl k) ?_
  show Goes p e below (s₁.setTop (mkF m 73 #[.val (.long q1), .second, .val (.long q2), .second, .val (.long (q1 >>> ((32 : Int32) &&& 0x3f).toInt64)), .second, .val (.long (q1 &&& (4294967295 : Int64))), .second, .val (.long (q2 >>> ((32 : Int32) &&& 0x3f).toInt64)), .second, .val (.long (q2 &&& (4294967295 : Int64))), .second, .val (.long (v2_31_0 q1 q2)), .second, .val (.long (v2_44_1 q1 q2)), .second, .val (.long (v2_69_3 q1 q2)), .second, .val (.long (v2_59_2 q1 q2)), .second] [(.long (q1 >>> ((32 : Int32) &&& 0x3f).toInt64))])) _
  refine Goes.via (fun t k => XS.lload X0.here hx rfl (hb hby d2_73) rfl k) ?_
  show Goes p e below (s₁.setTop (mkF m 75 #[.val (.long q1), .second, .val (.long q2), .second, .val (.long (q1 >>> ((32 : Int32) &&& 0x3f).toInt64)), .second, .val (.long (q1 &&& (4294967295 : Int64))), .second, .val (.long (q2 >>> ((32 : Int32) &&& 0x3f).toInt64)), .second, .val (.long (q2 &&& (4294967295 : Int64))), .second, .val (.long (v2_31_0 q1 q2)), .second, .val (.long (v2_44_1 q1 q2)), .second, .val (.long (v2_69_3 q1 q2)), .second, .val (.long (v2_59_2 q1 q2)), .second] [(.long (q2 >>> ((32 : Int32) &&& 0x3f).toInt64)), (.long (q1 >>> ((32 : Int32) &&& 0x3f).toInt64))])) _
  refine Goes.via (fun t k => XS.lmul X0.here hx rfl (hb hby d2_75) rfl k) ?_
  show Goes p e below (s₁.setTop (mkF m 76 #[.val (.long q1), .second, .val (.long q2), .second, .val (.long (q1 >>> ((32 : Int32) &&& 0x3f).toInt64)), .second, .val (.long (q1 &&& (4294967295 : Int64))), .second, .val (.long (q2 >>> ((32 : Int32) &&& 0x3f).toInt64)), .second, .val (.long (q2 &&& (4294967295 : Int64))), .second, .val (.long (v2_31_0 q1 q2)), .second, .val (.long (v2_44_1 q1 q2)), .second, .val (.long (v2_69_3 q1 q2)), .second, .val (.long (v2_59_2 q1 q2)), .second] [(.long ((q1 >>> ((32 : Int32) &&& 0x3f).toInt64) * (q2 >>> ((32 : Int32) &&& 0x3f).toInt64)))])) _
  refine Goes.via (fun t k => XS.lload X0.here hx rfl (hb hby d2_76) rfl k) ?_
  show Goes p e below (s₁.setTop (mkF m 78 #[.val (.long q1), .second, .val (.long q2), .second, .val (.long (q1 >>> ((32 : Int32) &&& 0x3f).toInt64)), .second, .val (.long (q1 &&& (4294967295 : Int64))), .second, .val (.long (q2 >>> ((32 : Int32) &&& 0x3f).toInt64)), .second, .val (.long (q2 &&& (4294967295 : Int64))), .second, .val (.long (v2_31_0 q1 q2)), .second, .val (.long (v2_44_1 q1 q2)), .second, .val (.long (v2_69_3 q1 q2)), .second, .val (.long (v2_59_2 q1 q2)), .second] [(.long (v2_59_2 q1 q2)), (.long ((q1 >>> ((32 : Int32) &&& 0x3f).toInt64) * (q2 >>> ((32 : Int32) &&& 0x3f).toInt64)))])) _
  refine Goes.via (fun t k => XS.ladd X0.here hx rfl (hb hby d2_78) rfl k) ?_
  show Goes p e below (s₁.setTop (mkF m 79 #[.val (.long q1), .second, .val (.long q2), .second, .val (.long (q1 >>> ((32 : Int32) &&& 0x3f).toInt64)), .second, .val (.long (q1 &&& (4294967295 : Int64))), .second, .val (.long (q2 >>> ((32 : Int32) &&& 0x3f).toInt64)), .second, .val (.long (q2 &&& (4294967295 : Int64))), .second, .val (.long (v2_31_0 q1 q2)), .second, .val (.long (v2_44_1 q1 q2)), .second, .val (.long (v2_69_3 q1 q2)), .second, .val (.long (v2_59_2 q1 q2)), .second] [(.long (((q1 >>> ((32 : Int32) &&& 0x3f).toInt64) * (q2 >>> ((32 : Int32) &&& 0x3f).toInt64)) + (v2_59_2 q1 q2)))])) _
  refine Goes.via (fun t k => XS.lload X0.here hx rfl (hb hby d2_79) rfl k) ?_
  show Goes p e below (s₁.setTop (mkF m 81 #[.val (.long q1), .second, .val (.long q2), .second, .val (.long (q1 >>> ((32 : Int32) &&& 0x3f).toInt64)), .second, .val (.long (q1 &&& (4294967295 : Int64))), .second, .val (.long (q2 >>> ((32 : Int32) &&& 0x3f).toInt64)), .second, .val (.long (q2 &&& (4294967295 : Int64))), .second, .val (.long (v2_31_0 q1 q2)), .second, .val (.long (v2_44_1 q1 q2)), .second, .val (.long (v2_69_3 q1 q2)), .second, .val (.long (v2_59_2 q1 q2)), .second] [(.long (v2_69_3 q1 q2)), (.long (((q1 >>> ((32 : Int32) &&& 0x3f).toInt64) * (q2 >>> ((32 : Int32) &&& 0x3f).toInt64)) + (v2_59_2 q1 q2)))])) _
  refine Goes.via (fun t k => XS.bipush X0.here hx rfl (hb hby d2_81) k) ?_
  show Goes p e below (s₁.setTop (mkF m 83 #[.val (.long q1), .second, .val (.long q2), .second, .val (.long (q1 >>> ((32 : Int32) &&& 0x3f).toInt64)), .second, .val (.long (q1 &&& (4294967295 : Int64))), .second, .val (.long (q2 >>> ((32 : Int32) &&& 0x3f).toInt64)), .second, .val (.long (q2 &&& (4294967295 : Int64))), .second, .val (.long (v2_31_0 q1 q2)), .second, .val (.long (v2_44_1 q1 q2)), .second, .val (.long (v2_69_3 q1 q2)), .second, .val (.long (v2_59_2 q1 q2)), .second] [(.int (32 : Int32)), (.long (v2_69_3 q1 q2)), (.long (((q1 >>> ((32 : Int32) &&& 0x3f).toInt64) * (q2 >>> ((32 : Int32) &&& 0x3f).toInt64)) + (v2_59_2 q1 q2)))])) _
  refine Goes.via (fun t k => XS.lshr X0.here hx rfl (hb hby d2_83) rfl k) ?_
  show Goes p e below (s₁.setTop (mkF m 84 #[.val (.long q1), .second, .val (.long q2), .second, .val (.long (q1 >>> ((32 : Int32) &&& 0x3f).toInt64)), .second, .val (.long (q1 &&& (4294967295 : Int64))), .second, .val (.long (q2 >>> ((32 : Int32) &&& 0x3f).toInt64)), .second, .val (.long (q2 &&& (4294967295 : Int64))), .second, .val (.long (v2_31_0 q1 q2)), .second, .val (.long (v2_44_1 q1 q2)), .second, .val (.long (v2_69_3 q1 q2)), .second, .val (.long (v2_59_2 q1 q2)), .second] [(.long ((v2_69_3 q1 q2) >>> ((32 : Int32) &&& 0x3f).toInt64)), (.long (((q1 >>> ((32 : Int32) &&& 0x3f).toInt64) * (q2 >>> ((32 : Int32) &&& 0x3f).toInt64)) + (v2_59_2 q1 q2)))])) _
  refine Goes.via (fun t k => XS.ladd X0.here hx rfl (hb hby d2_84) rfl k) ?_
  show Goes p e below (s₁.setTop (mkF m 85 #[.val (.long q1), .second, .val (.long q2), .second, .val (.long (q1 >>> ((32 : Int32) &&& 0x3f).toInt64)), .second, .val (.long (q1 &&& (4294967295 : Int64))), .second, .val (.long (q2 >>> ((32 : Int32) &&& 0x3f).toInt64)), .second, .val (.long (q2 &&& (4294967295 : Int64))), .second, .val (.long (v2_31_0 q1 q2)), .second, .val (.long (v2_44_1 q1 q2)), .second, .val (.long (v2_69_3 q1 q2)), .second, .val (.long (v2_59_2 q1 q2)), .second] [(.long ((((q1 >>> ((32 : Int32) &&& 0x3f).toInt64) * (q2 >>> ((32 : Int32) &&& 0x3f).toInt64)) + (v2_59_2 q1 q2)) + ((v2_69_3 q1 q2) >>> ((32 : Int32) &&& 0x3f).toInt64)))])) _
  obtain ⟨fs, hr, hrun, hended, hW, hsame⟩ := X0.leave (v := some (.long ((((q1 >>> ((32 : Int32) &&& 0x3f).toInt64) * (q2 >>> ((32 : Int32) &&& 0x3f).toInt64)) + (v2_59_2 q1 q2)) + ((v2_69_3 q1 q2) >>> ((32 : Int32) &&& 0x3f).toInt64)))) (fun h => by rw [Bd.returns] at h; cases h)
  refine ⟨_, _, ?_, hrun, hended, _, _, rfl, ?_, ⟨_, rfl⟩, hW, hsame.mono (by decide) (by decide)⟩
  · exact X0.lreturnOut hx Bd.returns (hb hby d2_85) hr
  · show Q2 Z q1 q2 h0 n0 _ s₁.heap _
    rw [e0]
    exact ⟨congrArg some (congrArg _ rfl), N0, rfl⟩
theorem d1_0 : decode prog_9_method_4_code 0 = .ok (.lload_n 0, 1) := by decide +kernel
theorem d1_1 : decode prog_9_method_4_code 1 = .ok (.lload_n 2, 1) := by decide +kernel
theorem d1_2 : decode prog_9_method_4_code 2 = .ok (.lmul, 1) := by decide +kernel
theorem d1_3 : decode prog_9_method_4_code 3 = .ok (.lstore 4, 2) := by decide +kernel
theorem d1_5 : decode prog_9_method_4_code 5 = .ok (.lload_n 0, 1) := by decide +kernel
theorem d1_6 : decode prog_9_method_4_code 6 = .ok (.lload_n 2, 1) := by decide +kernel
theorem d1_7 : decode prog_9_method_4_code 7 = .ok (.invokestatic 34, 3) := by decide +kernel
theorem d1_10 : decode prog_9_method_4_code 10 = .ok (.lload 4, 2) := by decide +kernel
theorem d1_12 : decode prog_9_method_4_code 12 = .ok (.bipush 63, 2) := by decide +kernel
theorem d1_14 : decode prog_9_method_4_code 14 = .ok (.lshr, 1) := by decide +kernel
theorem d1_15 : decode prog_9_method_4_code 15 = .ok (.lcmp, 1) := by decide +kernel
theorem d1_16 : decode prog_9_method_4_code 16 = .ok (.ifCond .ne 12, 3) := by decide +kernel
theorem d1_19 : decode prog_9_method_4_code 19 = .ok (.lload 4, 2) := by decide +kernel
theorem d1_21 : decode prog_9_method_4_code 21 = .ok (.ldc2_w 17, 3) := by decide +kernel
theorem d1_24 : decode prog_9_method_4_code 24 = .ok (.lcmp, 1) := by decide +kernel
theorem d1_25 : decode prog_9_method_4_code 25 = .ok (.ifCond .ne 7, 3) := by decide +kernel
theorem d1_28 : decode prog_9_method_4_code 28 = .ok (.ldc2_w 17, 3) := by decide +kernel
theorem d1_31 : decode prog_9_method_4_code 31 = .ok (.lreturn, 1) := by decide +kernel
theorem d1_32 : decode prog_9_method_4_code 32 = .ok (.lload 4, 2) := by decide +kernel
theorem d1_34 : decode prog_9_method_4_code 34 = .ok (.lreturn, 1) := by decide +kernel
theorem pn_1 : plainName "com/example/indexwright/indexwright/Unscaled" = true := by first | (simp [plainName, overriddenIn]; done) | decide +kernel
theorem pd_1_0 : parseMethodDescriptor "(JJ)J" = some ⟨[.long, .long], some .long⟩ := by decide +kernel
theorem ef_1 (m : MethodId) (x0 : Int64) (x1 : Int64) : entryFrame m #[(.long x0), (.long x1)] 6 = mkF m 0 #[.val (.long x0), .second, .val (.long x1), .second, .unset, .unset] [] := by first | (simp [entryFrame, mkF, argsToLocals, Value.category]; done) | rfl
def f1 (q1 : Int64) (q2 : Int64) : Int64 :=
  if (f2 q1 q2) = ((q1 * q2) >>> ((63 : Int32) &&& 0x3f).toInt64) then (if (q1 * q2) = (-9223372036854775808 : Int64) then (-9223372036854775808 : Int64) else
  (q1 * q2)) else
  (-9223372036854775808 : Int64)
def Q1 (Z : State) (q1 : Int64) (q2 : Int64) (h0 : Heap) (n0 : Nat) (v : Option Value) (h : Heap) (L : List Loc) : Prop := v = some (.long (f1 q1 q2)) ∧ Fr n0 L ∧ h = h0
set_option maxRecDepth 65536 in
set_option maxHeartbeats 40000000 in
theorem rm1 (l : Launch) (Z : State) (a0 : Array Value) (hw : ∀ d ∈ tables_1, d.before a0 Z = true) (ws : List Jvm.Cond) (q1 : Int64) (q2 : Int64) (h0 : Heap) (n0 : Nat) (Z0 : n0 ≤ h0.size) :
    MetFree l (⟨"com/example/indexwright/indexwright/Unscaled", "product", "(JJ)J"⟩ : MethodName) (head1 (Jvm.Cond.code (⟨"com/example/indexwright/indexwright/Unscaled", "product", "(JJ)J"⟩ : MethodName) prog_9_method_4_code 6 (some .long) :: ws) ({ frames := 1, cells := 0, slots := 0, locals := 31 } : Room)) (fun a U => a = #[(.long q1), (.long q2)] ∧ Z.Warmed39 U.vm ∧ U.heap = h0) (fun _ _ _ _ _ => True) (fun _ U o U' => ∃ v L, o = .returned v ∧ Q1 Z q1 q2 h0 n0 v U'.heap L ∧ FrameEnd U o U' L ({ frames := 1, cells := 0, slots := 0, locals := 31 } : Room).cells ({ frames := 1, cells := 0, slots := 0, locals := 31 } : Room).slots) := by
  refine MetFree.of_bodySF (plainFor_of_name pn_1) hisR ?_
  intro p e s m args below meth c s₁ Bd hml0 hP hK
  obtain ⟨rfl, hZ, hh⟩ := hP
  have hx := Bd.exec
  have hby := Bd.bytes
  have hml : c.maxLocals = 6 := hml0
  have hown : s.vm.findClass "com/example/indexwright/indexwright/Unscaled" = some m.cls := findClass_of_methodNamed Bd.named
  have hnm := (name_of_methodNamed Bd.named Bd.method).1
  have X0 : Stand p l e ({ frames := 1, cells := 0, slots := 0, locals := 31 } : Room) s m #[(.long q1), (.long q2)] below meth c s₁ [] 0 0 := Stand.of_body Bd
  have e0 : s₁.heap = h0 := by rw [← hh, Bd.state]; rfl
  have N0 := Fr.nil n0
  refine Goes.via (next := s₁.setTop (mkF m 0 #[.val (.long q1), .second, .val (.long q2), .second, .unset, .unset] [])) (fun t k => castTop (ef_1 m q1 q2) k) ?_
  refine Goes.via (fun t k => XS.lloadN X0.here hx rfl (hb hby d1_0) rfl k) ?_
  show Goes p e below (s₁.setTop (mkF m 1 #[.val (.long q1), .second, .val (.long q2), .second, .unset, .unset] [(.long q1)])) _
  refine Goes.via (fun t k => XS.lloadN X0.here hx rfl (hb hby d1_1) rfl k) ?_
  show Goes p e below (s₁.setTop (mkF m 2 #[.val (.long q1), .second, .val (.long q2), .second, .unset, .unset] [(.long q2), (.long q1)])) _
  refine Goes.via (fun t k => XS.lmul X0.here hx rfl (hb hby d1_2) rfl k) ?_
  show Goes p e below (s₁.setTop (mkF m 3 #[.val (.long q1), .second, .val (.long q2), .second, .unset, .unset] [(.long (q1 * q2))])) _
  refine Goes.via (fun t k => XS.lstore X0.here hx rfl (hb hby d1_3) rfl (l' := #[.val (.long q1), .second, .val (.long q2), .second, .val (.long (q1 * q2)), .second]) rfl k) ?_
  show Goes p e below (s₁.setTop (mkF m 5 #[.val (.long q1), .second, .val (.long q2), .second, .val (.long (q1 * q2)), .second] [])) _
  refine Goes.via (fun t k => XS.lloadN X0.here hx rfl (hb hby d1_5) rfl k) ?_
  show Goes p e below (s₁.setTop (mkF m 6 #[.val (.long q1), .second, .val (.long q2), .second, .val (.long (q1 * q2)), .second] [(.long q1)])) _
  refine Goes.via (fun t k => XS.lloadN X0.here hx rfl (hb hby d1_6) rfl k) ?_
  show Goes p e below (s₁.setTop (mkF m 7 #[.val (.long q1), .second, .val (.long q2), .second, .val (.long (q1 * q2)), .second] [(.long q2), (.long q1)])) _
  obtain ⟨_, _, ⟨T1, L1, k1, n1⟩, -, X1, ⟨Lc1, hQ1, l1, y1, z1⟩, st1⟩ := Jvm.LawKit.callS X0 hx (y := (⟨"java/lang/Math", "multiplyHigh", "(JJ)J"⟩ : MethodName)) hown (mvT hZ (hw _ (List.mem_of_getElem? (i := 5) rfl))) (mvT hZ (hw _ (List.mem_of_getElem? (i := 6) rfl))) (mvT hZ (hw _ (List.mem_of_getElem? (i := 7) rfl))) (mvT hZ (hw _ (List.mem_of_getElem? (i := 8) rfl))) (by decide) (backOf (W := 0) (rm2 l Z a0 hw [] q1 q2 h0 n0 Z0 ) hZ (hw _ (List.mem_of_getElem? (i := 8) rfl)) (hw _ (List.mem_of_getElem? (i := 7) rfl)) (by decide) (by decide)) (g := (mkF m 7 #[.val (.long q1), .second, .val (.long q2), .second, .val (.long (q1 * q2)), .second] [(.long q2), (.long q1)])) rfl (by rw [hml]; rfl) (argsL := [(.long q1), (.long q2)]) (rest := []) (lenOf pd_1_0 rfl) rfl (by show 2 * 0 + _ ≤ _; exact Nat.le_of_eq rfl) (hb hby d1_7) (fun _ _ => ⟨rfl, e0, (by decide : 0 + 0 ≤ _), (by decide : 0 + 0 ≤ _)⟩)
  dsimp only [Pt.U, Pt.locs, Pt.cells, Pt.slots] at X1 l1 y1 z1 st1 hQ1
  subst l1 y1 z1
  obtain ⟨rfl, N1q, er1⟩ := hQ1
  have e1 : T1.heap = h0 := er1
  have N1 := Fr.app N0 N1q
  refine Goes.via st1 ?_
  show Goes p e below (T1.setTop (mkF m 10 #[.val (.long q1), .second, .val (.long q2), .second, .val (.long (q1 * q2)), .second] [(.long (f2 q1 q2))])) _
  refine Goes.via (fun t k => XS.lload X1.here hx rfl (hb hby d1_10) rfl k) ?_
  show Goes p e below (T1.setTop (mkF m 12 #[.val (.long q1), .second, .val (.long q2), .second, .val (.long (q1 * q2)), .second] [(.long (q1 * q2)), (.long (f2 q1 q2))])) _
  refine Goes.via (fun t k => XS.bipush X1.here hx rfl (hb hby d1_12) k) ?_
  show Goes p e below (T1.setTop (mkF m 14 #[.val (.long q1), .second, .val (.long q2), .second, .val (.long (q1 * q2)), .second] [(.int (63 : Int32)), (.long (q1 * q2)), (.long (f2 q1 q2))])) _
  refine Goes.via (fun t k => XS.lshr X1.here hx rfl (hb hby d1_14) rfl k) ?_
  show Goes p e below (T1.setTop (mkF m 15 #[.val (.long q1), .second, .val (.long q2), .second, .val (.long (q1 * q2)), .second] [(.long ((q1 * q2) >>> ((63 : Int32) &&& 0x3f).toInt64)), (.long (f2 q1 q2))])) _
  refine Goes.via (fun t k => XS.lcmp X1.here hx rfl (hb hby d1_15) rfl k) ?_
  show Goes p e below (T1.setTop (mkF m 16 #[.val (.long q1), .second, .val (.long q2), .second, .val (.long (q1 * q2)), .second] [(.int (lcmpW (f2 q1 q2) ((q1 * q2) >>> ((63 : Int32) &&& 0x3f).toInt64)))])) _
  by_cases hc16_2 : (f2 q1 q2) = ((q1 * q2) >>> ((63 : Int32) &&& 0x3f).toInt64)
  · refine Goes.via (fun t k => XS.ifNo X1.here hx rfl (hb hby d1_16) rfl ((if0 _ _).trans (teq ((lw_eq _ _).mpr hc16_2)).2) k) ?_
    show Goes p e below (T1.setTop (mkF m 19 #[.val (.long q1), .second, .val (.long q2), .second, .val (.long (q1 * q2)), .second] [])) _
    refine Goes.via (fun t k => XS.lload X1.here hx rfl (hb hby d1_19) rfl k) ?_
    show Goes p e below (T1.setTop (mkF m 21 #[.val (.long q1), .second, .val (.long q2), .second, .val (.long (q1 * q2)), .second] [(.long (q1 * q2))])) _
    refine Goes.via (fun t k => X1.ldc2Long hx hown (mvT hZ (hw _ (List.mem_of_getElem? (i := 10) rfl))) (g := (mkF m 21 #[.val (.long q1), .second, .val (.long q2), .second, .val (.long (q1 * q2)), .second] [(.long (q1 * q2))])) rfl (hb hby d1_21) _ k) ?_
    show Goes p e below (T1.setTop (mkF m 24 #[.val (.long q1), .second, .val (.long q2), .second, .val (.long (q1 * q2)), .second] [(.long (-9223372036854775808 : Int64)), (.long (q1 * q2))])) _
    refine Goes.via (fun t k => XS.lcmp X1.here hx rfl (hb hby d1_24) rfl k) ?_
    show Goes p e below (T1.setTop (mkF m 25 #[.val (.long q1), .second, .val (.long q2), .second, .val (.long (q1 * q2)), .second] [(.int (lcmpW (q1 * q2) (-9223372036854775808 : Int64)))])) _
    by_cases hc25_3 : (q1 * q2) = (-9223372036854775808 : Int64)
    · refine Goes.via (fun t k => XS.ifNo X1.here hx rfl (hb hby d1_25) rfl ((if0 _ _).trans (teq ((lw_eq _ _).mpr hc25_3)).2) k) ?_
      show Goes p e below (T1.setTop (mkF m 28 #[.val (.long q1), .second, .val (.long q2), .second, .val (.long (q1 * q2)), .second] [])) _
      refine Goes.via (fun t k => X1.ldc2Long hx hown (mvT hZ (hw _ (List.mem_of_getElem? (i := 10) rfl))) (g := (mkF m 28 #[.val (.long q1), .second, .val (.long q2), .second, .val (.long (q1 * q2)), .second] [])) rfl (hb hby d1_28) _ k) ?_
      show Goes p e below (T1.setTop (mkF m 31 #[.val (.long q1), .second, .val (.long q2), .second, .val (.long (q1 * q2)), .second] [(.long (-9223372036854775808 : Int64))])) _
      obtain ⟨fs, hr, hrun, hended, hW, hsame⟩ := X1.leave (v := some (.long (-9223372036854775808 : Int64))) (fun h => by rw [Bd.returns] at h; cases h)
      refine ⟨_, _, ?_, hrun, hended, _, _, rfl, ?_, ⟨_, rfl⟩, hW, hsame.mono (by decide) (by decide)⟩
      · exact X1.lreturnOut hx Bd.returns (hb hby d1_31) hr
      · show Q1 Z q1 q2 h0 n0 _ T1.heap _
        rw [e1]
        exact ⟨congrArg some (congrArg _ (by simp only [f1, if_pos hc16_2, if_pos hc25_3])), N1, rfl⟩
    · refine Goes.via (fun t k => XS.ifYes X1.here hx rfl (pc0 := 25) (pc' := 32) rfl (hb hby d1_25) rfl ((if0 _ _).trans (feq (fun q => hc25_3 ((lw_eq _ _).mp q))).2) (by decide) (by decide) k) ?_
      show Goes p e below (T1.setTop (mkF m 32 #[.val (.long q1), .second, .val (.long q2), .second, .val (.long (q1 * q2)), .second] [])) _
      refine Goes.via (fun t k => XS.lload X1.here hx rfl (hb hby d1_32) rfl k) ?_
      show Goes p e below (T1.setTop (mkF m 34 #[.val (.long q1), .second, .val (.long q2), .second, .val (.long (q1 * q2)), .second] [(.long (q1 * q2))])) _
      obtain ⟨fs, hr, hrun, hended, hW, hsame⟩ := X1.leave (v := some (.long (q1 * q2))) (fun h => by rw [Bd.returns] at h; cases h)
      refine ⟨_, _, ?_, hrun, hended, _, _, rfl, ?_, ⟨_, rfl⟩, hW, hsame.mono (by decide) (by decide)⟩
      · exact X1.lreturnOut hx Bd.returns (hb hby d1_34) hr
      · show Q1 Z q1 q2 h0 n0 _ T1.heap _
        rw [e1]
        exact ⟨congrArg some (congrArg _ (by simp only [f1, if_pos hc16_2, if_neg hc25_3])), N1, rfl⟩
  · refine Goes.via (fun t k => XS.ifYes X1.here hx rfl (pc0 := 16) (pc' := 28) rfl (hb hby d1_16) rfl ((if0 _ _).trans (feq (fun q => hc16_2 ((lw_eq _ _).mp q))).2) (by decide) (by decide) k) ?_
    show Goes p e below (T1.setTop (mkF m 28 #[.val (.long q1), .second, .val (.long q2), .second, .val (.long (q1 * q2)), .second] [])) _
    refine Goes.via (fun t k => X1.ldc2Long hx hown (mvT hZ (hw _ (List.mem_of_getElem? (i := 10) rfl))) (g := (mkF m 28 #[.val (.long q1), .second, .val (.long q2), .second, .val (.long (q1 * q2)), .second] [])) rfl (hb hby d1_28) _ k) ?_
    show Goes p e below (T1.setTop (mkF m 31 #[.val (.long q1), .second, .val (.long q2), .second, .val (.long (q1 * q2)), .second] [(.long (-9223372036854775808 : Int64))])) _
    obtain ⟨fs, hr, hrun, hended, hW, hsame⟩ := X1.leave (v := some (.long (-9223372036854775808 : Int64))) (fun h => by rw [Bd.returns] at h; cases h)
    refine ⟨_, _, ?_, hrun, hended, _, _, rfl, ?_, ⟨_, rfl⟩, hW, hsame.mono (by decide) (by decide)⟩
    · exact X1.lreturnOut hx Bd.returns (hb hby d1_31) hr
    · show Q1 Z q1 q2 h0 n0 _ T1.heap _
      rw [e1]
      exact ⟨congrArg some (congrArg _ (by simp only [f1, if_neg hc16_2])), N1, rfl⟩
theorem d3_0 : decode method_2_code 0 = .ok (.lload_n 2, 1) := by decide +kernel
theorem d3_1 : decode method_2_code 1 = .ok (.lconst 0, 1) := by decide +kernel
theorem d3_2 : decode method_2_code 2 = .ok (.lcmp, 1) := by decide +kernel
theorem d3_3 : decode method_2_code 3 = .ok (.ifCond .ne 5, 3) := by decide +kernel
theorem d3_6 : decode method_2_code 6 = .ok (.lconst 0, 1) := by decide +kernel
theorem d3_7 : decode method_2_code 7 = .ok (.lreturn, 1) := by decide +kernel
theorem d3_8 : decode method_2_code 8 = .ok (.lload_n 0, 1) := by decide +kernel
theorem d3_9 : decode method_2_code 9 = .ok (.lload_n 2, 1) := by decide +kernel
theorem d3_10 : decode method_2_code 10 = .ok (.lmul, 1) := by decide +kernel
theorem d3_11 : decode method_2_code 11 = .ok (.lstore 4, 2) := by decide +kernel
theorem d3_13 : decode method_2_code 13 = .ok (.lload 4, 2) := by decide +kernel
theorem d3_15 : decode method_2_code 15 = .ok (.lload_n 2, 1) := by decide +kernel
theorem d3_16 : decode method_2_code 16 = .ok (.ldiv, 1) := by decide +kernel
theorem d3_17 : decode method_2_code 17 = .ok (.lload_n 0, 1) := by decide +kernel
theorem d3_18 : decode method_2_code 18 = .ok (.lcmp, 1) := by decide +kernel
theorem d3_19 : decode method_2_code 19 = .ok (.ifCond .eq 7, 3) := by decide +kernel
theorem d3_22 : decode method_2_code 22 = .ok (.ldc2_w 9, 3) := by decide +kernel
theorem d3_25 : decode method_2_code 25 = .ok (.lreturn, 1) := by decide +kernel
theorem d3_26 : decode method_2_code 26 = .ok (.lload 4, 2) := by decide +kernel
theorem d3_28 : decode method_2_code 28 = .ok (.lreturn, 1) := by decide +kernel
theorem pn_3 : plainName "com/example/indexwright/indexwright/UnscaledProductPinLaw" = true := by first | (simp [plainName, overriddenIn]; done) | decide +kernel
theorem ef_3 (m : MethodId) (x0 : Int64) (x1 : Int64) : entryFrame m #[(.long x0), (.long x1)] 6 = mkF m 0 #[.val (.long x0), .second, .val (.long x1), .second, .unset, .unset] [] := by first | (simp [entryFrame, mkF, argsToLocals, Value.category]; done) | rfl
def f3 (q1 : Int64) (q2 : Int64) : Int64 :=
  if q2 = (0 : Int64) then (0 : Int64) else
  if ((q1 * q2) / q2) = q1 then (q1 * q2) else
  (-9223372036854775808 : Int64)
def Q3 (Z : State) (q1 : Int64) (q2 : Int64) (h0 : Heap) (n0 : Nat) (v : Option Value) (h : Heap) (L : List Loc) : Prop := v = some (.long (f3 q1 q2)) ∧ Fr n0 L ∧ h = h0
set_option maxRecDepth 65536 in
set_option maxHeartbeats 40000000 in
theorem rm3 (l : Launch) (Z : State) (a0 : Array Value) (hw : ∀ d ∈ tables_1, d.before a0 Z = true) (ws : List Jvm.Cond) (q1 : Int64) (q2 : Int64) (h0 : Heap) (n0 : Nat) (Z0 : n0 ≤ h0.size) :
    MetFree l (⟨"com/example/indexwright/indexwright/UnscaledProductPinLaw", "reference", "(JJ)J"⟩ : MethodName) (head1 (Jvm.Cond.code (⟨"com/example/indexwright/indexwright/UnscaledProductPinLaw", "reference", "(JJ)J"⟩ : MethodName) method_2_code 6 (some .long) :: ws) ({ frames := 0, cells := 0, slots := 0, locals := 0 } : Room)) (fun a U => a = #[(.long q1), (.long q2)] ∧ Z.Warmed39 U.vm ∧ U.heap = h0) (fun _ _ _ _ _ => True) (fun _ U o U' => ∃ v L, o = .returned v ∧ Q3 Z q1 q2 h0 n0 v U'.heap L ∧ FrameEnd U o U' L ({ frames := 0, cells := 0, slots := 0, locals := 0 } : Room).cells ({ frames := 0, cells := 0, slots := 0, locals := 0 } : Room).slots) := by
  refine MetFree.of_bodySF (plainFor_of_name pn_3) hisR ?_
  intro p e s m args below meth c s₁ Bd hml0 hP hK
  obtain ⟨rfl, hZ, hh⟩ := hP
  have hx := Bd.exec
  have hby := Bd.bytes
  have hml : c.maxLocals = 6 := hml0
  have hown : s.vm.findClass "com/example/indexwright/indexwright/UnscaledProductPinLaw" = some m.cls := findClass_of_methodNamed Bd.named
  have hnm := (name_of_methodNamed Bd.named Bd.method).1
  have X0 : Stand p l e ({ frames := 0, cells := 0, slots := 0, locals := 0 } : Room) s m #[(.long q1), (.long q2)] below meth c s₁ [] 0 0 := Stand.of_body Bd
  have e0 : s₁.heap = h0 := by rw [← hh, Bd.state]; rfl
  have N0 := Fr.nil n0
  refine Goes.via (next := s₁.setTop (mkF m 0 #[.val (.long q1), .second, .val (.long q2), .second, .unset, .unset] [])) (fun t k => castTop (ef_3 m q1 q2) k) ?_
  refine Goes.via (fun t k => XS.lloadN X0.here hx rfl (hb hby d3_0) rfl k) ?_
  show Goes p e below (s₁.setTop (mkF m 1 #[.val (.long q1), .second, .val (.long q2), .second, .unset, .unset] [(.long q2)])) _
  refine Goes.via (fun t k => XS.lconst X0.here hx rfl (hb hby d3_1) k) ?_
  show Goes p e below (s₁.setTop (mkF m 2 #[.val (.long q1), .second, .val (.long q2), .second, .unset, .unset] [(.long (0 : Int64)), (.long q2)])) _
  refine Goes.via (fun t k => XS.lcmp X0.here hx rfl (hb hby d3_2) rfl k) ?_
  show Goes p e below (s₁.setTop (mkF m 3 #[.val (.long q1), .second, .val (.long q2), .second, .unset, .unset] [(.int (lcmpW q2 (0 : Int64)))])) _
  by_cases hc3_1 : q2 = (0 : Int64)
  · refine Goes.via (fun t k => XS.ifNo X0.here hx rfl (hb hby d3_3) rfl ((if0 _ _).trans (teq ((lw_eq _ _).mpr hc3_1)).2) k) ?_
    show Goes p e below (s₁.setTop (mkF m 6 #[.val (.long q1), .second, .val (.long q2), .second, .unset, .unset] [])) _
    refine Goes.via (fun t k => XS.lconst X0.here hx rfl (hb hby d3_6) k) ?_
    show Goes p e below (s₁.setTop (mkF m 7 #[.val (.long q1), .second, .val (.long q2), .second, .unset, .unset] [(.long (0 : Int64))])) _
    obtain ⟨fs, hr, hrun, hended, hW, hsame⟩ := X0.leave (v := some (.long (0 : Int64))) (fun h => by rw [Bd.returns] at h; cases h)
    refine ⟨_, _, ?_, hrun, hended, _, _, rfl, ?_, ⟨_, rfl⟩, hW, hsame.mono (by decide) (by decide)⟩
    · exact X0.lreturnOut hx Bd.returns (hb hby d3_7) hr
    · show Q3 Z q1 q2 h0 n0 _ s₁.heap _
      rw [e0]
      exact ⟨congrArg some (congrArg _ (by simp only [f3, if_pos hc3_1])), N0, rfl⟩
  · refine Goes.via (fun t k => XS.ifYes X0.here hx rfl (pc0 := 3) (pc' := 8) rfl (hb hby d3_3) rfl ((if0 _ _).trans (feq (fun q => hc3_1 ((lw_eq _ _).mp q))).2) (by decide) (by decide) k) ?_
    show Goes p e below (s₁.setTop (mkF m 8 #[.val (.long q1), .second, .val (.long q2), .second, .unset, .unset] [])) _
    refine Goes.via (fun t k => XS.lloadN X0.here hx rfl (hb hby d3_8) rfl k) ?_
    show Goes p e below (s₁.setTop (mkF m 9 #[.val (.long q1), .second, .val (.long q2), .second, .unset, .unset] [(.long q1)])) _
    refine Goes.via (fun t k => XS.lloadN X0.here hx rfl (hb hby d3_9) rfl k) ?_
    show Goes p e below (s₁.setTop (mkF m 10 #[.val (.long q1), .second, .val (.long q2), .second, .unset, .unset] [(.long q2), (.long q1)])) _
    refine Goes.via (fun t k => XS.lmul X0.here hx rfl (hb hby d3_10) rfl k) ?_
    show Goes p e below (s₁.setTop (mkF m 11 #[.val (.long q1), .second, .val (.long q2), .second, .unset, .unset] [(.long (q1 * q2))])) _
    refine Goes.via (fun t k => XS.lstore X0.here hx rfl (hb hby d3_11) rfl (l' := #[.val (.long q1), .second, .val (.long q2), .second, .val (.long (q1 * q2)), .second]) rfl k) ?_
    show Goes p e below (s₁.setTop (mkF m 13 #[.val (.long q1), .second, .val (.long q2), .second, .val (.long (q1 * q2)), .second] [])) _
    refine Goes.via (fun t k => XS.lload X0.here hx rfl (hb hby d3_13) rfl k) ?_
    show Goes p e below (s₁.setTop (mkF m 15 #[.val (.long q1), .second, .val (.long q2), .second, .val (.long (q1 * q2)), .second] [(.long (q1 * q2))])) _
    refine Goes.via (fun t k => XS.lloadN X0.here hx rfl (hb hby d3_15) rfl k) ?_
    show Goes p e below (s₁.setTop (mkF m 16 #[.val (.long q1), .second, .val (.long q2), .second, .val (.long (q1 * q2)), .second] [(.long q2), (.long (q1 * q2))])) _
    refine Goes.via (fun t k => XS.ldiv X0.here hx rfl (hb hby d3_16) rfl hc3_1 k) ?_
    show Goes p e below (s₁.setTop (mkF m 17 #[.val (.long q1), .second, .val (.long q2), .second, .val (.long (q1 * q2)), .second] [(.long ((q1 * q2) / q2))])) _
    refine Goes.via (fun t k => XS.lloadN X0.here hx rfl (hb hby d3_17) rfl k) ?_
    show Goes p e below (s₁.setTop (mkF m 18 #[.val (.long q1), .second, .val (.long q2), .second, .val (.long (q1 * q2)), .second] [(.long q1), (.long ((q1 * q2) / q2))])) _
    refine Goes.via (fun t k => XS.lcmp X0.here hx rfl (hb hby d3_18) rfl k) ?_
    show Goes p e below (s₁.setTop (mkF m 19 #[.val (.long q1), .second, .val (.long q2), .second, .val (.long (q1 * q2)), .second] [(.int (lcmpW ((q1 * q2) / q2) q1))])) _
    by_cases hc19_2 : ((q1 * q2) / q2) = q1
    · refine Goes.via (fun t k => XS.ifYes X0.here hx rfl (pc0 := 19) (pc' := 26) rfl (hb hby d3_19) rfl ((if0 _ _).trans (teq ((lw_eq _ _).mpr hc19_2)).1) (by decide) (by decide) k) ?_
      show Goes p e below (s₁.setTop (mkF m 26 #[.val (.long q1), .second, .val (.long q2), .second, .val (.long (q1 * q2)), .second] [])) _
      refine Goes.via (fun t k => XS.lload X0.here hx rfl (hb hby d3_26) rfl k) ?_
      show Goes p e below (s₁.setTop (mkF m 28 #[.val (.long q1), .second, .val (.long q2), .second, .val (.long (q1 * q2)), .second] [(.long (q1 * q2))])) _
      obtain ⟨fs, hr, hrun, hended, hW, hsame⟩ := X0.leave (v := some (.long (q1 * q2))) (fun h => by rw [Bd.returns] at h; cases h)
      refine ⟨_, _, ?_, hrun, hended, _, _, rfl, ?_, ⟨_, rfl⟩, hW, hsame.mono (by decide) (by decide)⟩
      · exact X0.lreturnOut hx Bd.returns (hb hby d3_28) hr
      · show Q3 Z q1 q2 h0 n0 _ s₁.heap _
        rw [e0]
        exact ⟨congrArg some (congrArg _ (by simp only [f3, if_neg hc3_1, if_pos hc19_2])), N0, rfl⟩
    · refine Goes.via (fun t k => XS.ifNo X0.here hx rfl (hb hby d3_19) rfl ((if0 _ _).trans (feq (fun q => hc19_2 ((lw_eq _ _).mp q))).1) k) ?_
      show Goes p e below (s₁.setTop (mkF m 22 #[.val (.long q1), .second, .val (.long q2), .second, .val (.long (q1 * q2)), .second] [])) _
      refine Goes.via (fun t k => X0.ldc2Long hx hown (mvT hZ (hw _ (List.mem_of_getElem? (i := 0) rfl))) (g := (mkF m 22 #[.val (.long q1), .second, .val (.long q2), .second, .val (.long (q1 * q2)), .second] [])) rfl (hb hby d3_22) _ k) ?_
      show Goes p e below (s₁.setTop (mkF m 25 #[.val (.long q1), .second, .val (.long q2), .second, .val (.long (q1 * q2)), .second] [(.long (-9223372036854775808 : Int64))])) _
      obtain ⟨fs, hr, hrun, hended, hW, hsame⟩ := X0.leave (v := some (.long (-9223372036854775808 : Int64))) (fun h => by rw [Bd.returns] at h; cases h)
      refine ⟨_, _, ?_, hrun, hended, _, _, rfl, ?_, ⟨_, rfl⟩, hW, hsame.mono (by decide) (by decide)⟩
      · exact X0.lreturnOut hx Bd.returns (hb hby d3_25) hr
      · show Q3 Z q1 q2 h0 n0 _ s₁.heap _
        rw [e0]
        exact ⟨congrArg some (congrArg _ (by simp only [f3, if_neg hc3_1, if_neg hc19_2])), N0, rfl⟩
theorem pn_0 : plainName "com/example/indexwright/indexwright/UnscaledProductPinLaw" = true := by first | (simp [plainName, overriddenIn]; done) | decide +kernel
theorem pd_0_0 : parseMethodDescriptor "(JJ)J" = some ⟨[.long, .long], some .long⟩ := by decide +kernel
theorem ef_0 (m : MethodId) (x0 : Int64) (x1 : Int64) (x2 : Int32) (x3 : Int32) : entryFrame m #[(.long x0), (.long x1), (.int x2), (.int x3)] maxLocals = mkF m 0 #[.val (.long x0), .second, .val (.long x1), .second, .val (.int x2), .val (.int x3), .unset, .unset, .unset, .unset, .unset, .unset] [] := by first | (simp [entryFrame, mkF, argsToLocals, Value.category, maxLocals]; done) | rfl
def v0_7_0 (q1 : Int64) (p3 : Int32) : Int64 := (q1 >>> ((p3 &&& (63 : Int32)) &&& 0x3f).toInt64)
def v0_16_1 (q2 : Int64) (p4 : Int32) : Int64 := (q2 >>> ((p4 &&& (63 : Int32)) &&& 0x3f).toInt64)
def v0_65_2 (q1 : Int64) (q2 : Int64) (p3 : Int32) (p4 : Int32) : Int32 := (if (f1 (v0_7_0 q1 p3) (v0_16_1 q2 p4)) = (f3 (v0_7_0 q1 p3) (v0_16_1 q2 p4)) then (1 : Int32) else (0 : Int32))
def f0 (q1 : Int64) (q2 : Int64) (p3 : Int32) (p4 : Int32) : Int32 :=
  if (v0_7_0 q1 p3) = (-9223372036854775808 : Int64) then (1 : Int32) else
  if (v0_16_1 q2 p4) = (-9223372036854775808 : Int64) then (1 : Int32) else
  (nar .boolean (v0_65_2 q1 q2 p3 p4))
def Q0 (Z : State) (q1 : Int64) (q2 : Int64) (p3 : Int32) (p4 : Int32) (h0 : Heap) (n0 : Nat) (v : Option Value) (h : Heap) (L : List Loc) : Prop := v = some (.int (f0 q1 q2 p3 p4)) ∧ Fr n0 L ∧ h = h0
set_option maxRecDepth 65536 in
set_option maxHeartbeats 40000000 in
theorem rm0 (l : Launch) (Z : State) (a0 : Array Value) (hw : ∀ d ∈ tables_1, d.before a0 Z = true) (ws : List Jvm.Cond) (q1 : Int64) (q2 : Int64) (p3 : Int32) (p4 : Int32) (h0 : Heap) (n0 : Nat) (Z0 : n0 ≤ h0.size) :
    MetFree l x (head1 (Jvm.Cond.code x code maxLocals ret :: ws) room_1) (fun a U => a = #[(.long q1), (.long q2), (.int p3), (.int p4)] ∧ Z.Warmed39 U.vm ∧ U.heap = h0) (fun _ _ _ _ _ => True) (fun _ U o U' => ∃ v L, o = .returned v ∧ Q0 Z q1 q2 p3 p4 h0 n0 v U'.heap L ∧ FrameEnd U o U' L room_1.cells room_1.slots) := by
  refine MetFree.of_bodySF (plainFor_of_name pn_0) hisR ?_
  intro p e s m args below meth c s₁ Bd hml0 hP hK
  obtain ⟨rfl, hZ, hh⟩ := hP
  have hx := Bd.exec
  have hby := Bd.bytes
  have hml : c.maxLocals = 12 := hml0
  have hown : s.vm.findClass "com/example/indexwright/indexwright/UnscaledProductPinLaw" = some m.cls := findClass_of_methodNamed Bd.named
  have hnm := (name_of_methodNamed Bd.named Bd.method).1
  have X0 : Stand p l e room_1 s m #[(.long q1), (.long q2), (.int p3), (.int p4)] below meth c s₁ [] 0 0 := Stand.of_body Bd
  have e0 : s₁.heap = h0 := by rw [← hh, Bd.state]; rfl
  have N0 := Fr.nil n0
  refine Goes.via (next := s₁.setTop (mkF m 0 #[.val (.long q1), .second, .val (.long q2), .second, .val (.int p3), .val (.int p4), .unset, .unset, .unset, .unset, .unset, .unset] [])) (fun t k => castTop (ef_0 m q1 q2 p3 p4) k) ?_
  refine Goes.via (fun t k => XS.lloadN X0.here hx rfl (hb hby at_0) rfl k) ?_
  show Goes p e below (s₁.setTop (mkF m 1 #[.val (.long q1), .second, .val (.long q2), .second, .val (.int p3), .val (.int p4), .unset, .unset, .unset, .unset, .unset, .unset] [(.long q1)])) _
  refine Goes.via (fun t k => XS.iload X0.here hx rfl (hb hby at_1) rfl k) ?_
  show Goes p e below (s₁.setTop (mkF m 3 #[.val (.long q1), .second, .val (.long q2), .second, .val (.int p3), .val (.int p4), .unset, .unset, .unset, .unset, .unset, .unset] [(.int p3), (.long q1)])) _
  refine Goes.via (fun t k => XS.bipush X0.here hx rfl (hb hby at_3) k) ?_
  show Goes p e below (s₁.setTop (mkF m 5 #[.val (.long q1), .second, .val (.long q2), .second, .val (.int p3), .val (.int p4), .unset, .unset, .unset, .unset, .unset, .unset] [(.int (63 : Int32)), (.int p3), (.long q1)])) _
  refine Goes.via (fun t k => XS.iand X0.here hx rfl (hb hby at_5) rfl k) ?_
  show Goes p e below (s₁.setTop (mkF m 6 #[.val (.long q1), .second, .val (.long q2), .second, .val (.int p3), .val (.int p4), .unset, .unset, .unset, .unset, .unset, .unset] [(.int (p3 &&& (63 : Int32))), (.long q1)])) _
  refine Goes.via (fun t k => XS.lshr X0.here hx rfl (hb hby at_6) rfl k) ?_
  show Goes p e below (s₁.setTop (mkF m 7 #[.val (.long q1), .second, .val (.long q2), .second, .val (.int p3), .val (.int p4), .unset, .unset, .unset, .unset, .unset, .unset] [(.long (q1 >>> ((p3 &&& (63 : Int32)) &&& 0x3f).toInt64))])) _
  refine Goes.via (fun t k => XS.lstore X0.here hx rfl (hb hby at_7) rfl (l' := #[.val (.long q1), .second, .val (.long q2), .second, .val (.int p3), .val (.int p4), .val (.long (v0_7_0 q1 p3)), .second, .unset, .unset, .unset, .unset]) rfl k) ?_
  show Goes p e below (s₁.setTop (mkF m 9 #[.val (.long q1), .second, .val (.long q2), .second, .val (.int p3), .val (.int p4), .val (.long (v0_7_0 q1 p3)), .second, .unset, .unset, .unset, .unset] [])) _
  refine Goes.via (fun t k => XS.lloadN X0.here hx rfl (hb hby at_9) rfl k) ?_
  show Goes p e below (s₁.setTop (mkF m 10 #[.val (.long q1), .second, .val (.long q2), .second, .val (.int p3), .val (.int p4), .val (.long (v0_7_0 q1 p3)), .second, .unset, .unset, .unset, .unset] [(.long q2)])) _
  refine Goes.via (fun t k => XS.iload X0.here hx rfl (hb hby at_10) rfl k) ?_
  show Goes p e below (s₁.setTop (mkF m 12 #[.val (.long q1), .second, .val (.long q2), .second, .val (.int p3), .val (.int p4), .val (.long (v0_7_0 q1 p3)), .second, .unset, .unset, .unset, .unset] [(.int p4), (.long q2)])) _
  refine Goes.via (fun t k => XS.bipush X0.here hx rfl (hb hby at_12) k) ?_
  show Goes p e below (s₁.setTop (mkF m 14 #[.val (.long q1), .second, .val (.long q2), .second, .val (.int p3), .val (.int p4), .val (.long (v0_7_0 q1 p3)), .second, .unset, .unset, .unset, .unset] [(.int (63 : Int32)), (.int p4), (.long q2)])) _
  refine Goes.via (fun t k => XS.iand X0.here hx rfl (hb hby at_14) rfl k) ?_
  show Goes p e below (s₁.setTop (mkF m 15 #[.val (.long q1), .second, .val (.long q2), .second, .val (.int p3), .val (.int p4), .val (.long (v0_7_0 q1 p3)), .second, .unset, .unset, .unset, .unset] [(.int (p4 &&& (63 : Int32))), (.long q2)])) _
  refine Goes.via (fun t k => XS.lshr X0.here hx rfl (hb hby at_15) rfl k) ?_
  show Goes p e below (s₁.setTop (mkF m 16 #[.val (.long q1), .second, .val (.long q2), .second, .val (.int p3), .val (.int p4), .val (.long (v0_7_0 q1 p3)), .second, .unset, .unset, .unset, .unset] [(.long (q2 >>> ((p4 &&& (63 : Int32)) &&& 0x3f).toInt64))])) _
  refine Goes.via (fun t k => XS.lstore X0.here hx rfl (hb hby at_16) rfl (l' := #[.val (.long q1), .second, .val (.long q2), .second, .val (.int p3), .val (.int p4), .val (.long (v0_7_0 q1 p3)), .second, .val (.long (v0_16_1 q2 p4)), .second, .unset, .unset]) rfl k) ?_
  show Goes p e below (s₁.setTop (mkF m 18 #[.val (.long q1), .second, .val (.long q2), .second, .val (.int p3), .val (.int p4), .val (.long (v0_7_0 q1 p3)), .second, .val (.long (v0_16_1 q2 p4)), .second, .unset, .unset] [])) _
  refine Goes.via (fun t k => XS.lload X0.here hx rfl (hb hby at_18) rfl k) ?_
  show Goes p e below (s₁.setTop (mkF m 20 #[.val (.long q1), .second, .val (.long q2), .second, .val (.int p3), .val (.int p4), .val (.long (v0_7_0 q1 p3)), .second, .val (.long (v0_16_1 q2 p4)), .second, .unset, .unset] [(.long (v0_7_0 q1 p3))])) _
  refine Goes.via (fun t k => X0.ldc2Long hx hown (mvT hZ (hw _ (List.mem_of_getElem? (i := 0) rfl))) (g := (mkF m 20 #[.val (.long q1), .second, .val (.long q2), .second, .val (.int p3), .val (.int p4), .val (.long (v0_7_0 q1 p3)), .second, .val (.long (v0_16_1 q2 p4)), .second, .unset, .unset] [(.long (v0_7_0 q1 p3))])) rfl (hb hby at_20) _ k) ?_
  show Goes p e below (s₁.setTop (mkF m 23 #[.val (.long q1), .second, .val (.long q2), .second, .val (.int p3), .val (.int p4), .val (.long (v0_7_0 q1 p3)), .second, .val (.long (v0_16_1 q2 p4)), .second, .unset, .unset] [(.long (-9223372036854775808 : Int64)), (.long (v0_7_0 q1 p3))])) _
  refine Goes.via (fun t k => XS.lcmp X0.here hx rfl (hb hby at_23) rfl k) ?_
  show Goes p e below (s₁.setTop (mkF m 24 #[.val (.long q1), .second, .val (.long q2), .second, .val (.int p3), .val (.int p4), .val (.long (v0_7_0 q1 p3)), .second, .val (.long (v0_16_1 q2 p4)), .second, .unset, .unset] [(.int (lcmpW (v0_7_0 q1 p3) (-9223372036854775808 : Int64)))])) _
  by_cases hc24_1 : (v0_7_0 q1 p3) = (-9223372036854775808 : Int64)
  · refine Goes.via (fun t k => XS.ifYes X0.here hx rfl (pc0 := 24) (pc' := 36) rfl (hb hby at_24) rfl ((if0 _ _).trans (teq ((lw_eq _ _).mpr hc24_1)).1) (by decide) (by decide) k) ?_
    show Goes p e below (s₁.setTop (mkF m 36 #[.val (.long q1), .second, .val (.long q2), .second, .val (.int p3), .val (.int p4), .val (.long (v0_7_0 q1 p3)), .second, .val (.long (v0_16_1 q2 p4)), .second, .unset, .unset] [])) _
    refine Goes.via (fun t k => XS.iconst X0.here hx rfl (hb hby at_36) k) ?_
    show Goes p e below (s₁.setTop (mkF m 37 #[.val (.long q1), .second, .val (.long q2), .second, .val (.int p3), .val (.int p4), .val (.long (v0_7_0 q1 p3)), .second, .val (.long (v0_16_1 q2 p4)), .second, .unset, .unset] [(.int (1 : Int32))])) _
    obtain ⟨fs, hr, hrun, hended, hW, hsame⟩ := X0.leave (v := some (.int (1 : Int32))) (fun h => by rw [Bd.returns] at h; cases h)
    refine ⟨_, _, ?_, hrun, hended, _, _, rfl, ?_, ⟨_, rfl⟩, hW, hsame.mono (by decide) (by decide)⟩
    · exact retN X0 hx (t := .boolean) Bd.returns (by simp) (hb hby at_37) hr
    · show Q0 Z q1 q2 p3 p4 h0 n0 _ s₁.heap _
      rw [e0]
      exact ⟨congrArg some (congrArg _ (by simp only [f0, if_pos hc24_1])), N0, rfl⟩
  · refine Goes.via (fun t k => XS.ifNo X0.here hx rfl (hb hby at_24) rfl ((if0 _ _).trans (feq (fun q => hc24_1 ((lw_eq _ _).mp q))).1) k) ?_
    show Goes p e below (s₁.setTop (mkF m 27 #[.val (.long q1), .second, .val (.long q2), .second, .val (.int p3), .val (.int p4), .val (.long (v0_7_0 q1 p3)), .second, .val (.long (v0_16_1 q2 p4)), .second, .unset, .unset] [])) _
    refine Goes.via (fun t k => XS.lload X0.here hx rfl (hb hby at_27) rfl k) ?_
    show Goes p e below (s₁.setTop (mkF m 29 #[.val (.long q1), .second, .val (.long q2), .second, .val (.int p3), .val (.int p4), .val (.long (v0_7_0 q1 p3)), .second, .val (.long (v0_16_1 q2 p4)), .second, .unset, .unset] [(.long (v0_16_1 q2 p4))])) _
    refine Goes.via (fun t k => X0.ldc2Long hx hown (mvT hZ (hw _ (List.mem_of_getElem? (i := 0) rfl))) (g := (mkF m 29 #[.val (.long q1), .second, .val (.long q2), .second, .val (.int p3), .val (.int p4), .val (.long (v0_7_0 q1 p3)), .second, .val (.long (v0_16_1 q2 p4)), .second, .unset, .unset] [(.long (v0_16_1 q2 p4))])) rfl (hb hby at_29) _ k) ?_
    show Goes p e below (s₁.setTop (mkF m 32 #[.val (.long q1), .second, .val (.long q2), .second, .val (.int p3), .val (.int p4), .val (.long (v0_7_0 q1 p3)), .second, .val (.long (v0_16_1 q2 p4)), .second, .unset, .unset] [(.long (-9223372036854775808 : Int64)), (.long (v0_16_1 q2 p4))])) _
    refine Goes.via (fun t k => XS.lcmp X0.here hx rfl (hb hby at_32) rfl k) ?_
    show Goes p e below (s₁.setTop (mkF m 33 #[.val (.long q1), .second, .val (.long q2), .second, .val (.int p3), .val (.int p4), .val (.long (v0_7_0 q1 p3)), .second, .val (.long (v0_16_1 q2 p4)), .second, .unset, .unset] [(.int (lcmpW (v0_16_1 q2 p4) (-9223372036854775808 : Int64)))])) _
    by_cases hc33_2 : (v0_16_1 q2 p4) = (-9223372036854775808 : Int64)
    · refine Goes.via (fun t k => XS.ifNo X0.here hx rfl (hb hby at_33) rfl ((if0 _ _).trans (teq ((lw_eq _ _).mpr hc33_2)).2) k) ?_
      show Goes p e below (s₁.setTop (mkF m 36 #[.val (.long q1), .second, .val (.long q2), .second, .val (.int p3), .val (.int p4), .val (.long (v0_7_0 q1 p3)), .second, .val (.long (v0_16_1 q2 p4)), .second, .unset, .unset] [])) _
      refine Goes.via (fun t k => XS.iconst X0.here hx rfl (hb hby at_36) k) ?_
      show Goes p e below (s₁.setTop (mkF m 37 #[.val (.long q1), .second, .val (.long q2), .second, .val (.int p3), .val (.int p4), .val (.long (v0_7_0 q1 p3)), .second, .val (.long (v0_16_1 q2 p4)), .second, .unset, .unset] [(.int (1 : Int32))])) _
      obtain ⟨fs, hr, hrun, hended, hW, hsame⟩ := X0.leave (v := some (.int (1 : Int32))) (fun h => by rw [Bd.returns] at h; cases h)
      refine ⟨_, _, ?_, hrun, hended, _, _, rfl, ?_, ⟨_, rfl⟩, hW, hsame.mono (by decide) (by decide)⟩
      · exact retN X0 hx (t := .boolean) Bd.returns (by simp) (hb hby at_37) hr
      · show Q0 Z q1 q2 p3 p4 h0 n0 _ s₁.heap _
        rw [e0]
        exact ⟨congrArg some (congrArg _ (by simp only [f0, if_neg hc24_1, if_pos hc33_2])), N0, rfl⟩
    · refine Goes.via (fun t k => XS.ifYes X0.here hx rfl (pc0 := 33) (pc' := 38) rfl (hb hby at_33) rfl ((if0 _ _).trans (feq (fun q => hc33_2 ((lw_eq _ _).mp q))).2) (by decide) (by decide) k) ?_
      show Goes p e below (s₁.setTop (mkF m 38 #[.val (.long q1), .second, .val (.long q2), .second, .val (.int p3), .val (.int p4), .val (.long (v0_7_0 q1 p3)), .second, .val (.long (v0_16_1 q2 p4)), .second, .unset, .unset] [])) _
      refine Goes.via (fun t k => XS.lload X0.here hx rfl (hb hby at_38) rfl k) ?_
      show Goes p e below (s₁.setTop (mkF m 40 #[.val (.long q1), .second, .val (.long q2), .second, .val (.int p3), .val (.int p4), .val (.long (v0_7_0 q1 p3)), .second, .val (.long (v0_16_1 q2 p4)), .second, .unset, .unset] [(.long (v0_7_0 q1 p3))])) _
      refine Goes.via (fun t k => XS.lload X0.here hx rfl (hb hby at_40) rfl k) ?_
      show Goes p e below (s₁.setTop (mkF m 42 #[.val (.long q1), .second, .val (.long q2), .second, .val (.int p3), .val (.int p4), .val (.long (v0_7_0 q1 p3)), .second, .val (.long (v0_16_1 q2 p4)), .second, .unset, .unset] [(.long (v0_16_1 q2 p4)), (.long (v0_7_0 q1 p3))])) _
      obtain ⟨_, _, ⟨T3, L3, k3, n3⟩, -, X3, ⟨Lc3, hQ3, l3, y3, z3⟩, st3⟩ := Jvm.LawKit.callS X0 hx (y := (⟨"com/example/indexwright/indexwright/Unscaled", "product", "(JJ)J"⟩ : MethodName)) hown (mvT hZ (hw _ (List.mem_of_getElem? (i := 1) rfl))) (mvT hZ (hw _ (List.mem_of_getElem? (i := 2) rfl))) (mvT hZ (hw _ (List.mem_of_getElem? (i := 3) rfl))) (mvT hZ (hw _ (List.mem_of_getElem? (i := 4) rfl))) (by decide) (backOf (W := 0) (rm1 l Z a0 hw [] (v0_7_0 q1 p3) (v0_16_1 q2 p4) h0 n0 Z0 ) hZ (hw _ (List.mem_of_getElem? (i := 4) rfl)) (hw _ (List.mem_of_getElem? (i := 3) rfl)) (by decide) (by decide)) (g := (mkF m 42 #[.val (.long q1), .second, .val (.long q2), .second, .val (.int p3), .val (.int p4), .val (.long (v0_7_0 q1 p3)), .second, .val (.long (v0_16_1 q2 p4)), .second, .unset, .unset] [(.long (v0_16_1 q2 p4)), (.long (v0_7_0 q1 p3))])) rfl (by rw [hml]; rfl) (argsL := [(.long (v0_7_0 q1 p3)), (.long (v0_16_1 q2 p4))]) (rest := []) (lenOf pd_0_0 rfl) rfl (by show 2 * 0 + _ ≤ _; exact Nat.le_of_eq rfl) (hb hby at_42) (fun _ _ => ⟨rfl, e0, (by decide : 0 + 0 ≤ _), (by decide : 0 + 0 ≤ _)⟩)
      dsimp only [Pt.U, Pt.locs, Pt.cells, Pt.slots] at X3 l3 y3 z3 st3 hQ3
      subst l3 y3 z3
      obtain ⟨rfl, N3q, er3⟩ := hQ3
      have e3 : T3.heap = h0 := er3
      have N3 := Fr.app N0 N3q
      refine Goes.via st3 ?_
      show Goes p e below (T3.setTop (mkF m 45 #[.val (.long q1), .second, .val (.long q2), .second, .val (.int p3), .val (.int p4), .val (.long (v0_7_0 q1 p3)), .second, .val (.long (v0_16_1 q2 p4)), .second, .unset, .unset] [(.long (f1 (v0_7_0 q1 p3) (v0_16_1 q2 p4)))])) _
      refine Goes.via (fun t k => XS.lstore X3.here hx rfl (hb hby at_45) rfl (l' := #[.val (.long q1), .second, .val (.long q2), .second, .val (.int p3), .val (.int p4), .val (.long (v0_7_0 q1 p3)), .second, .val (.long (v0_16_1 q2 p4)), .second, .val (.long (f1 (v0_7_0 q1 p3) (v0_16_1 q2 p4))), .second]) rfl k) ?_
      show Goes p e below (T3.setTop (mkF m 47 #[.val (.long q1), .second, .val (.long q2), .second, .val (.int p3), .val (.int p4), .val (.long (v0_7_0 q1 p3)), .second, .val (.long (v0_16_1 q2 p4)), .second, .val (.long (f1 (v0_7_0 q1 p3) (v0_16_1 q2 p4))), .second] [])) _
      refine Goes.via (fun t k => XS.lload X3.here hx rfl (hb hby at_47) rfl k) ?_
      show Goes p e below (T3.setTop (mkF m 49 #[.val (.long q1), .second, .val (.long q2), .second, .val (.int p3), .val (.int p4), .val (.long (v0_7_0 q1 p3)), .second, .val (.long (v0_16_1 q2 p4)), .second, .val (.long (f1 (v0_7_0 q1 p3) (v0_16_1 q2 p4))), .second] [(.long (f1 (v0_7_0 q1 p3) (v0_16_1 q2 p4)))])) _
      refine Goes.via (fun t k => XS.lload X3.here hx rfl (hb hby at_49) rfl k) ?_
      show Goes p e below (T3.setTop (mkF m 51 #[.val (.long q1), .second, .val (.long q2), .second, .val (.int p3), .val (.int p4), .val (.long (v0_7_0 q1 p3)), .second, .val (.long (v0_16_1 q2 p4)), .second, .val (.long (f1 (v0_7_0 q1 p3) (v0_16_1 q2 p4))), .second] [(.long (v0_7_0 q1 p3)), (.long (f1 (v0_7_0 q1 p3) (v0_16_1 q2 p4)))])) _
      refine Goes.via (fun t k => XS.lload X3.here hx rfl (hb hby at_51) rfl k) ?_
      show Goes p e below (T3.setTop (mkF m 53 #[.val (.long q1), .second, .val (.long q2), .second, .val (.int p3), .val (.int p4), .val (.long (v0_7_0 q1 p3)), .second, .val (.long (v0_16_1 q2 p4)), .second, .val (.long (f1 (v0_7_0 q1 p3) (v0_16_1 q2 p4))), .second] [(.long (v0_16_1 q2 p4)), (.long (v0_7_0 q1 p3)), (.long (f1 (v0_7_0 q1 p3) (v0_16_1 q2 p4)))])) _
      obtain ⟨_, _, ⟨T4, L4, k4, n4⟩, -, X4, ⟨Lc4, hQ4, l4, y4, z4⟩, st4⟩ := Jvm.LawKit.callS X3 hx (y := (⟨"com/example/indexwright/indexwright/UnscaledProductPinLaw", "reference", "(JJ)J"⟩ : MethodName)) hown (mvT hZ (hw _ (List.mem_of_getElem? (i := 11) rfl))) (mvT hZ (hw _ (List.mem_of_getElem? (i := 12) rfl))) (mvT hZ (hw _ (List.mem_of_getElem? (i := 13) rfl))) (mvT hZ (hw _ (List.mem_of_getElem? (i := 14) rfl))) (by decide) (backOf (W := 2) (rm3 l Z a0 hw [] (v0_7_0 q1 p3) (v0_16_1 q2 p4) h0 n0 Z0 ) hZ (hw _ (List.mem_of_getElem? (i := 14) rfl)) (hw _ (List.mem_of_getElem? (i := 13) rfl)) (by decide) (by decide)) (g := (mkF m 53 #[.val (.long q1), .second, .val (.long q2), .second, .val (.int p3), .val (.int p4), .val (.long (v0_7_0 q1 p3)), .second, .val (.long (v0_16_1 q2 p4)), .second, .val (.long (f1 (v0_7_0 q1 p3) (v0_16_1 q2 p4))), .second] [(.long (v0_16_1 q2 p4)), (.long (v0_7_0 q1 p3)), (.long (f1 (v0_7_0 q1 p3) (v0_16_1 q2 p4)))])) rfl (by rw [hml]; rfl) (argsL := [(.long (v0_7_0 q1 p3)), (.long (v0_16_1 q2 p4))]) (rest := [(.long (f1 (v0_7_0 q1 p3) (v0_16_1 q2 p4)))]) (lenOf pd_0_0 rfl) rfl (by show 2 * 0 + _ ≤ _; exact Nat.le_of_eq rfl) (hb hby at_53) (fun _ _ => ⟨rfl, e3, (by decide : 0 + 0 ≤ _), (by decide : 0 + 0 ≤ _)⟩)
      dsimp only [Pt.U, Pt.locs, Pt.cells, Pt.slots] at X4 l4 y4 z4 st4 hQ4
      subst l4 y4 z4
      obtain ⟨rfl, N4q, er4⟩ := hQ4
      have e4 : T4.heap = h0 := er4
      have N4 := Fr.app N3 N4q
      refine Goes.via st4 ?_
      show Goes p e below (T4.setTop (mkF m 56 #[.val (.long q1), .second, .val (.long q2), .second, .val (.int p3), .val (.int p4), .val (.long (v0_7_0 q1 p3)), .second, .val (.long (v0_16_1 q2 p4)), .second, .val (.long (f1 (v0_7_0 q1 p3) (v0_16_1 q2 p4))), .second] [(.long (f3 (v0_7_0 q1 p3) (v0_16_1 q2 p4))), (.long (f1 (v0_7_0 q1 p3) (v0_16_1 q2 p4)))])) _
      refine Goes.via (fun t k => XS.lcmp X4.here hx rfl (hb hby at_56) rfl k) ?_
      show Goes p e below (T4.setTop (mkF m 57 #[.val (.long q1), .second, .val (.long q2), .second, .val (.int p3), .val (.int p4), .val (.long (v0_7_0 q1 p3)), .second, .val (.long (v0_16_1 q2 p4)), .second, .val (.long (f1 (v0_7_0 q1 p3) (v0_16_1 q2 p4))), .second] [(.int (lcmpW (f1 (v0_7_0 q1 p3) (v0_16_1 q2 p4)) (f3 (v0_7_0 q1 p3) (v0_16_1 q2 p4))))])) _
      refine Goes.via (next := T4.setTop (mkF m 65 #[.val (.long q1), .second, .val (.long q2), .second, .val (.int p3), .val (.int p4), .val (.long (v0_7_0 q1 p3)), .second, .val (.long (v0_16_1 q2 p4)), .second, .val (.long (f1 (v0_7_0 q1 p3) (v0_16_1 q2 p4))), .second] [(.int (v0_65_2 q1 q2 p3 p4))])) (fun t k => ?_) ?_
      · by_cases hc57_5 : (f1 (v0_7_0 q1 p3) (v0_16_1 q2 p4)) = (f3 (v0_7_0 q1 p3) (v0_16_1 q2 p4))
        · refine XS.ifNo X4.here hx rfl (hb hby at_57) rfl ((if0 _ _).trans (teq ((lw_eq _ _).mpr hc57_5)).2) ?_
          show Steps p.tables e below (T4.setTop (mkF m 60 #[.val (.long q1), .second, .val (.long q2), .second, .val (.int p3), .val (.int p4), .val (.long (v0_7_0 q1 p3)), .second, .val (.long (v0_16_1 q2 p4)), .second, .val (.long (f1 (v0_7_0 q1 p3) (v0_16_1 q2 p4))), .second] [])) _
          refine XS.iconst X4.here hx rfl (hb hby at_60) ?_
          show Steps p.tables e below (T4.setTop (mkF m 61 #[.val (.long q1), .second, .val (.long q2), .second, .val (.int p3), .val (.int p4), .val (.long (v0_7_0 q1 p3)), .second, .val (.long (v0_16_1 q2 p4)), .second, .val (.long (f1 (v0_7_0 q1 p3) (v0_16_1 q2 p4))), .second] [(.int (1 : Int32))])) _
          refine XS.goto X4.here hx rfl (pc0 := 61) (pc' := 65) rfl (hb hby at_61) (by decide) (by decide) ?_
          show Steps p.tables e below (T4.setTop (mkF m 65 #[.val (.long q1), .second, .val (.long q2), .second, .val (.int p3), .val (.int p4), .val (.long (v0_7_0 q1 p3)), .second, .val (.long (v0_16_1 q2 p4)), .second, .val (.long (f1 (v0_7_0 q1 p3) (v0_16_1 q2 p4))), .second] [(.int (1 : Int32))])) _
          simpa only [v0_65_2, if_pos hc57_5] using k
        · refine XS.ifYes X4.here hx rfl (pc0 := 57) (pc' := 64) rfl (hb hby at_57) rfl ((if0 _ _).trans (feq (fun q => hc57_5 ((lw_eq _ _).mp q))).2) (by decide) (by decide) ?_
          show Steps p.tables e below (T4.setTop (mkF m 64 #[.val (.long q1), .second, .val (.long q2), .second, .val (.int p3), .val (.int p4), .val (.long (v0_7_0 q1 p3)), .second, .val (.long (v0_16_1 q2 p4)), .second, .val (.long (f1 (v0_7_0 q1 p3) (v0_16_1 q2 p4))), .second] [])) _
          refine XS.iconst X4.here hx rfl (hb hby at_64) ?_
          show Steps p.tables e below (T4.setTop (mkF m 65 #[.val (.long q1), .second, .val (.long q2), .second, .val (.int p3), .val (.int p4), .val (.long (v0_7_0 q1 p3)), .second, .val (.long (v0_16_1 q2 p4)), .second, .val (.long (f1 (v0_7_0 q1 p3) (v0_16_1 q2 p4))), .second] [(.int (0 : Int32))])) _
          simpa only [v0_65_2, if_neg hc57_5] using k
      show Goes p e below (T4.setTop (mkF m 65 #[.val (.long q1), .second, .val (.long q2), .second, .val (.int p3), .val (.int p4), .val (.long (v0_7_0 q1 p3)), .second, .val (.long (v0_16_1 q2 p4)), .second, .val (.long (f1 (v0_7_0 q1 p3) (v0_16_1 q2 p4))), .second] [(.int (v0_65_2 q1 q2 p3 p4))])) _
      obtain ⟨fs, hr, hrun, hended, hW, hsame⟩ := X4.leave (v := some (.int (nar .boolean (v0_65_2 q1 q2 p3 p4)))) (fun h => by rw [Bd.returns] at h; cases h)
      refine ⟨_, _, ?_, hrun, hended, _, _, rfl, ?_, ⟨_, rfl⟩, hW, hsame.mono (by decide) (by decide)⟩
      · exact retN X4 hx (t := .boolean) Bd.returns (by simp) (hb hby at_65) hr
      · show Q0 Z q1 q2 p3 p4 h0 n0 _ T4.heap _
        rw [e4]
        exact ⟨congrArg some (congrArg _ (by simp only [f0, if_neg hc24_1, if_neg hc33_2])), N4, rfl⟩
theorem own_shr (x : Int64) : (x >>> ((32 : Int32) &&& 0x3f).toInt64).toInt = x.toInt / 4294967296 := c_lshr x 32 32 (by decide)
theorem own_low (x : Int64) : (x &&& (4294967295 : Int64)).toInt = x.toInt % 4294967296 := c_maskL x 4294967295 32 (by decide) (by decide)
theorem own_ushr (x : Int64) : ((x.toUInt64 >>> ((32 : Int32) &&& 0x3f).toInt64.toUInt64).toInt64).toInt = (x.toInt % 18446744073709551616) / 4294967296 := c_lushr x 32 32 (by decide) (by decide)
/-- a value known modulo 2^64, and small, is known -/
theorem own_known {x : Int64} {y : Int} (h : (x.toInt - y) % 18446744073709551616 = 0) (h1 : -9223372036854775808 ≤ y) (h2 : y < 9223372036854775808) : x.toInt = y := by
  have := rng64 x
  omega
theorem own_hi (a b : Int64) : (f2 a b).toInt * 18446744073709551616 ≤ a.toInt * b.toInt ∧ a.toInt * b.toInt < (f2 a b).toInt * 18446744073709551616 + 18446744073709551616 := by
  have ra := rng64 a
  have rb := rng64 b
  have hA : a.toInt = (a.toInt / 4294967296) * 4294967296 + a.toInt % 4294967296 := by omega
  have hB : b.toInt = (b.toInt / 4294967296) * 4294967296 + b.toInt % 4294967296 := by omega
  obtain ⟨x1, hx1⟩ : ∃ z, z = a.toInt / 4294967296 := ⟨_, rfl⟩
  obtain ⟨x2, hx2⟩ : ∃ z, z = a.toInt % 4294967296 := ⟨_, rfl⟩
  obtain ⟨y1, hy1⟩ : ∃ z, z = b.toInt / 4294967296 := ⟨_, rfl⟩
  obtain ⟨y2, hy2⟩ : ∃ z, z = b.toInt % 4294967296 := ⟨_, rfl⟩
  have b1 : -2147483648 ≤ x1 ∧ x1 ≤ 2147483647 := by omega
  have b2 : 0 ≤ x2 ∧ x2 ≤ 4294967295 := by omega
  have b3 : -2147483648 ≤ y1 ∧ y1 ≤ 2147483647 := by omega
  have b4 : 0 ≤ y2 ∧ y2 ≤ 4294967295 := by omega
  have m11 := mc b1.1 b1.2 b3.1 b3.2
  have m12 := mc b1.1 b1.2 b4.1 b4.2
  have m21 := mc b2.1 b2.2 b3.1 b3.2
  have m22 := mc b2.1 b2.2 b4.1 b4.2
  have hAB : a.toInt * b.toInt = (x1 * y1) * 18446744073709551616 + (x1 * y2 + x2 * y1) * 4294967296 + x2 * y2 := by
    rw [hA, hB, ← hx1, ← hx2, ← hy1, ← hy2]
    simp only [Int.add_mul, Int.mul_add]
    have e1 : x1 * 4294967296 * (y1 * 4294967296) = x1 * y1 * 18446744073709551616 := by
      rw [Int.mul_assoc, Int.mul_left_comm 4294967296 y1, ← Int.mul_assoc]; rfl
    have e2 : x1 * 4294967296 * y2 = x1 * y2 * 4294967296 := by rw [Int.mul_assoc, Int.mul_comm 4294967296 y2, ← Int.mul_assoc]
    have e3 : x2 * (y1 * 4294967296) = x2 * y1 * 4294967296 := by rw [Int.mul_assoc]
    rw [e1, e2, e3]
    omega
  rw [hAB]
  -- the first partial product
  have c0 : ((v2_31_0 a b).toInt - x2 * y2) % 18446744073709551616 = 0 := by
    have q := c_lmul (a &&& 4294967295) (b &&& 4294967295)
    rw [own_low, own_low, ← hx2, ← hy2] at q
    exact q
  have c0' : ((v2_31_0 a b).toInt % 18446744073709551616) / 4294967296 = x2 * y2 / 4294967296 := by
    generalize (v2_31_0 a b).toInt = z at *
    generalize x2 * y2 = w at *
    omega
  -- t
  have ct : (v2_44_1 a b).toInt = x1 * y2 + x2 * y2 / 4294967296 := by
    have q := c_lmul (a >>> ((32 : Int32) &&& 0x3f).toInt64) (b &&& 4294967295)
    rw [own_shr, own_low, ← hx1, ← hy2] at q
    have q1 := own_known q (by omega) (by omega)
    have r := c_ladd ((a >>> ((32 : Int32) &&& 0x3f).toInt64) * (b &&& 4294967295)) (((v2_31_0 a b).toUInt64 >>> ((32 : Int32) &&& 0x3f).toInt64.toUInt64).toInt64)
    rw [own_ushr, c0', q1] at r
    exact own_known r (by omega) (by omega)
  have c2 : (v2_59_2 a b).toInt = (x1 * y2 + x2 * y2 / 4294967296) / 4294967296 := by
    rw [← ct]; exact own_shr _
  have c3 : (v2_69_3 a b).toInt = (x1 * y2 + x2 * y2 / 4294967296) % 4294967296 + x2 * y1 := by
    have q := c_lmul (a &&& 4294967295) (b >>> ((32 : Int32) &&& 0x3f).toInt64)
    rw [own_shr, own_low, ← hx2, ← hy1] at q
    have q1 := own_known q (by omega) (by omega)
    have r := c_ladd ((v2_44_1 a b) &&& 4294967295) ((a &&& 4294967295) * (b >>> ((32 : Int32) &&& 0x3f).toInt64))
    rw [own_low, ct, q1] at r
    exact own_known r (by omega) (by omega)
  have c4 : (f2 a b).toInt = x1 * y1 + (x1 * y2 + x2 * y2 / 4294967296) / 4294967296 + ((x1 * y2 + x2 * y2 / 4294967296) % 4294967296 + x2 * y1) / 4294967296 := by
    have q := c_lmul (a >>> ((32 : Int32) &&& 0x3f).toInt64) (b >>> ((32 : Int32) &&& 0x3f).toInt64)
    rw [own_shr, own_shr, ← hx1, ← hy1] at q
    have q1 := own_known q (by omega) (by omega)
    have r := c_ladd ((a >>> ((32 : Int32) &&& 0x3f).toInt64) * (b >>> ((32 : Int32) &&& 0x3f).toInt64)) (v2_59_2 a b)
    rw [q1, c2] at r
    have r1 := own_known r (by omega) (by omega)
    have r2 := c_ladd ((a >>> ((32 : Int32) &&& 0x3f).toInt64) * (b >>> ((32 : Int32) &&& 0x3f).toInt64) + (v2_59_2 a b)) ((v2_69_3 a b) >>> ((32 : Int32) &&& 0x3f).toInt64)
    rw [r1, own_shr, c3] at r2
    exact own_known r2 (by omega) (by omega)
  rw [c4]
  generalize x1 * y1 = P11 at *
  generalize x1 * y2 = P12 at *
  generalize x2 * y1 = P21 at *
  generalize x2 * y2 = P22 at *
  omega
theorem own_sign (x : Int64) : (x >>> ((63 : Int32) &&& 0x3f).toInt64).toInt = x.toInt / 9223372036854775808 := c_lshr x 63 63 (by decide)
def own_fits (a b : Int64) : Prop := -9223372036854775808 ≤ a.toInt * b.toInt ∧ a.toInt * b.toInt < 9223372036854775808
theorem own_min : (-9223372036854775808 : Int64).toInt = -9223372036854775808 := by decide
theorem own_prod (a b : Int64) (h : own_fits a b) : (a * b).toInt = a.toInt * b.toInt := own_known (c_lmul a b) h.1 h.2
/-- the project's product -/
theorem own_f1 (a b : Int64) : (own_fits a b → f1 a b = a * b) ∧ (¬ own_fits a b → f1 a b = -9223372036854775808) := by
  have hh := own_hi a b
  have hp := c_lmul a b
  have hr := rng64 (a * b)
  have hs := own_sign (a * b)
  constructor
  · intro hf
    have hq := own_prod a b hf
    have e : f2 a b = (a * b) >>> ((63 : Int32) &&& 0x3f).toInt64 := by
      apply Int64.toInt_inj.mp
      rw [hs, hq]
      obtain ⟨f, g⟩ := hf
      generalize a.toInt * b.toInt = P at *
      omega
    simp only [f1, if_pos e]
    split
    · rename_i q; exact q.symm
    · rfl
  · intro hf
    have e : ¬ f2 a b = (a * b) >>> ((63 : Int32) &&& 0x3f).toInt64 := by
      intro q
      apply hf
      have q' := congrArg Int64.toInt q
      rw [hs] at q'
      unfold own_fits
      generalize a.toInt * b.toInt = P at *
      generalize (a * b).toInt = p at *
      omega
    simp only [f1, if_neg e]
theorem own_div {p b : Int64} (hb : b ≠ 0) (hm : ¬ (p.toInt = -9223372036854775808 ∧ b.toInt = -1)) : (p / b).toInt = p.toInt.tdiv b.toInt := by
  have rp := rng64 p
  have hb' : b.toInt ≠ 0 := fun q => hb (Int64.toInt_inj.mp q)
  rw [Int64.toInt_div]
  have ha : (p.toInt.tdiv b.toInt).natAbs ≤ p.toInt.natAbs := Int.natAbs_tdiv_le_natAbs _ _
  by_cases h1 : p.toInt.tdiv b.toInt = 9223372036854775808
  · exfalso
    apply hm
    have hpm : p.toInt = -9223372036854775808 := by omega
    refine ⟨hpm, ?_⟩
    have t := Int.tmod_add_mul_tdiv p.toInt b.toInt
    have t2 : (p.toInt.tmod b.toInt).natAbs < b.toInt.natAbs := by
      rw [Int.natAbs_tmod]; exact Nat.mod_lt _ (by omega)
    rw [h1, hpm] at t
    rw [hpm] at t2
    omega
  · apply Int.bmod_eq_of_le
    · show -(((2 ^ 64 : Nat) : Int) / 2) ≤ _
      have : ((2 ^ 64 : Nat) : Int) / 2 = 9223372036854775808 := by decide
      omega
    · show _ < (((2 ^ 64 : Nat) : Int) + 1) / 2
      have : (((2 ^ 64 : Nat) : Int) + 1) / 2 = 9223372036854775808 := by decide
      omega
/-- the law's own reference -/
theorem own_f3 (a b : Int64) (ha : ¬ a = -9223372036854775808) (hb : ¬ b = -9223372036854775808) : (own_fits a b → f3 a b = a * b) ∧ (¬ own_fits a b → f3 a b = -9223372036854775808) := by
  have ra := rng64 a
  have rb := rng64 b
  have ha' : a.toInt ≠ -9223372036854775808 := fun q => ha (Int64.toInt_inj.mp (q.trans own_min.symm))
  by_cases h0 : b = 0
  · subst h0
    have e0 : (0 : Int64).toInt = 0 := by decide
    have z : a * 0 = 0 := by
      apply Int64.toInt_inj.mp
      have := c_lmul a 0
      rw [e0, Int.mul_zero] at this
      rw [e0]
      exact own_known this (by decide) (by decide)
    constructor
    · intro _; rw [z]; simp only [f3]; rfl
    · intro hf; exfalso; apply hf; unfold own_fits; rw [e0, Int.mul_zero]; decide
  · have hb' : b.toInt ≠ 0 := fun q => h0 (Int64.toInt_inj.mp q)
    have hm : ¬ ((a * b).toInt = -9223372036854775808 ∧ b.toInt = -1) := by
      rintro ⟨q1, q2⟩
      have hp := c_lmul a b
      rw [q1, q2] at hp
      omega
    have hd := own_div h0 hm
    have t := Int.tmod_add_mul_tdiv (a * b).toInt b.toInt
    have t2 : ((a * b).toInt.tmod b.toInt).natAbs < b.toInt.natAbs := by
      rw [Int.natAbs_tmod]; exact Nat.mod_lt _ (by omega)
    simp only [f3, if_neg h0]
    constructor
    · intro hf
      rw [if_pos]
      apply Int64.toInt_inj.mp
      rw [hd, own_prod a b hf]
      exact Int.mul_tdiv_cancel _ hb'
    · intro hf
      rw [if_neg]
      intro q
      apply hf
      rw [q] at hd
      rw [← hd] at t
      have hp := c_lmul a b
      have hr := rng64 (a * b)
      have e : b.toInt * a.toInt = a.toInt * b.toInt := Int.mul_comm _ _
      rw [e] at t
      unfold own_fits
      generalize a.toInt * b.toInt = P at *
      generalize (a * b).toInt = p at *
      omega
theorem own_same (a b : Int64) (ha : ¬ a = -9223372036854775808) (hb : ¬ b = -9223372036854775808) : f1 a b = f3 a b := by
  obtain ⟨p1, p2⟩ := own_f1 a b
  obtain ⟨q1, q2⟩ := own_f3 a b ha hb
  by_cases h : own_fits a b
  · rw [p1 h, q1 h]
  · rw [p2 h, q2 h]
theorem one_1 (i0 i1 : Int64) (i2 i3 : Int32) : f0 i0 i1 i2 i3 = 1 := by
  simp only [f0]
  split
  · rfl
  · rename_i ha
    split
    · rfl
    · rename_i hb
      have h := own_same _ _ ha hb
      simp only [v0_65_2, if_pos h]
      decide
set_option maxRecDepth 65536 in
set_option maxHeartbeats 40000000 in
theorem comes_1 {Post : Tables → Env → Array Value → State → Outcome → State → Prop} (hpost : ∀ tb e args s v u, (limb_1_1.after args s (.returned v) u = true ∧ limb_1_2.after args s (.returned v) u = true ∧ True) → FrameEnd s (.returned v) u (Jvm.fieldLocs frame_1_writes args s ++ Jvm.arrayLocs frame_1_arrays args s ++ Jvm.staticLocs frame_1_statics s) 0 0 → Post tb e args s (.returned v) u) :
    ArmFor flags0 classFile x code maxLocals ret World_1 tables_1 room_1 Calls_1 rest_1 Pre_1 Post := by
  intro l hfl _ _ p e ha hc hk s m args below hf hA hF happ hP
  obtain ⟨hcalls, hrest, hpre⟩ := hP
  obtain ⟨-, -, -, hnamed, -, -, -, hat⟩ := (Spec.applies_iff hf).mp happ
  obtain ⟨hg, hn⟩ := and_e (Cond.before_iff.mp (show (Jvm.Cond.and given_1 narrow_1).before args s = true from hpre))
  obtain ⟨g0, r0⟩ := and_e hg
  obtain ⟨w0, w1, w2, w3, rfl⟩ : ∃ w0 w1 w2 w3 : Value, args = #[w0, w1, w2, w3] := by
    have hs : args.size = 4 := by simpa [Cond.value, given_1] using g0
    obtain ⟨L⟩ := args
    match L, hs with
    | [w0, w1, w2, w3], _ => exact ⟨w0, w1, w2, w3, rfl⟩
  have hw := fun d (hd : d ∈ tables_1) => atoms_spec (ws := Jvm.Cond.code x code maxLocals ret :: tables_1) hat d (List.mem_cons_of_mem _ hd)
  obtain ⟨g1, r1⟩ := and_e r0
  obtain ⟨g2, r2⟩ := and_e r1
  obtain ⟨g3, r3⟩ := and_e r2
  have g4 := r3
  obtain ⟨i0, ei0⟩ := isL_v g1
  obtain rfl : w0 = (.long i0) := Option.some.inj ei0
  obtain ⟨i1, ei1⟩ := isL_v g2
  obtain rfl : w1 = (.long i1) := Option.some.inj ei1
  obtain ⟨i2, ei2⟩ := is_v g3
  obtain rfl : w2 = (.int i2) := Option.some.inj ei2
  obtain ⟨i3, ei3⟩ := is_v g4
  obtain rfl : w3 = (.int i3) := Option.some.inj ei3
  obtain ⟨n, o, h1, h2, h3, v, L, rfl, hQ, hq⟩ := rm0 l s _ hw tables_1 i0 i1 i2 i3  s.heap s.heap.size (Nat.le_refl _)  p e ha hc hk s m _ below hf ((Spec.applies_iff_loose hf).mp happ).1 ⟨rfl, State.Warmed39.refl s, rfl⟩ trivial
  obtain ⟨hv, N⟩ : v = some (.int 1) ∧ Fr s.heap.size L := ⟨by rw [hQ.1, one_1 i0 i1 i2 i3], hQ.2.1⟩
  subst hv
  refine ⟨n, _, h1, h2, h3, hpost _ _ _ _ _ _ ⟨Cond.after_iff.mpr rfl, Cond.after_iff.mpr (eq_i res_at (Term.int_eval (1)) rfl), trivial⟩ ⟨hq.1, hq.2.1, (hq.2.2.sift fun y hy => Or.inr (N y hy)).mono (by decide) (by decide)⟩⟩
theorem main_1_1 : Claimed_1_1 := comes_1 fun _ _ _ _ _ _ h hF => ⟨h.1, hF⟩
theorem main_1_2 : Claimed_1_2 := comes_1 fun _ _ _ _ _ _ h hF => ⟨h.2.1, hF⟩
end Jvm.Pilot.@@N@@
namespace Jvm.Pilot.@@N@@
open Jvm Jvm.ClassFile Sem Op Lib Jvm.Free Jvm.Stand Jvm.Pilot.@@N@@.Jvm.D
/-! MADE BY PROGRAM (witnessworld.py) out of the Statement's table words and the real class files: 10 classes; the members and pool entries that the words name. The judged class is class 1, her method 2. -/
namespace start1
open Jvm.ClassFile
def u (s : String) : CpInfo := .utf8 (stringToUtf16 s)
/-- a pool by its gaps: so many unusable entries, then the entry; so many at the end -/
def gap : Nat → List CpInfo → List CpInfo
  | 0, r => r
  | n + 1, r => .unusable :: gap n r
def poolList (es : List (Nat × CpInfo)) (last : Nat) : List CpInfo := es.foldr (fun e r => gap e.1 (e.2 :: r)) (gap last [])
def pool (es : List (Nat × CpInfo)) (last : Nat) : Array CpInfo := ⟨poolList es last⟩
def fileOf (pool : Array CpInfo) (this : Nat) (attrs : Array Attribute := #[]) (ms : Array MethodInfo := #[]) (fl : Nat := 33) (sup : Nat := 0) (ifs : Array Nat := #[]) (fds : Array FieldInfo := #[]) : ClassFile where
  minorVersion := 0
  majorVersion := 65
  constantPool := pool
  accessFlags := fl
  thisClass := this
  superClass := sup
  interfaces := ifs
  fields := fds
  methods := ms
  attributes := attrs
def plain (name : String) (sup : Option ClassId) : Class where
  name := name
  kind := .ordinary
  loader := none
  accessFlags := 33
  super := sup
  interfaces := #[]
  cf := none
  fields := #[]
  methods := #[]
  instanceTypes := #[]
  staticTypes := #[]
  resolved := #[]
  callSites := []
  init := .initialized
  statics := none
  mirror := none

def pool0 : Array CpInfo := pool [(5, u "<init>"), (0, u "()V"), (1, .class_ 10), (1, u "java/lang/Object")] 113

def k0m0 : Method := { name := "<init>", desc := "()V", sig := { parameters := [], returnType := none }, accessFlags := 1, code := none }
/-- java/lang/Object -/
def k0 : Class := { plain "java/lang/Object" none with
  accessFlags := 33
  interfaces := #[]
  cf := some (fileOf pool0 8 #[] #[{ accessFlags := 1, nameIndex := 5, descriptorIndex := 6, attributes := #[] }] 33 0 #[] #[])
  fields := #[]
  methods := #[k0m0]
  instanceTypes := #[]
  staticTypes := #[]
  resolved := Array.replicate 124 none
  statics := none }

def pool1 : Array CpInfo := pool [(2, .class_ 4), (1, u "java/lang/Object"), (0, u "<init>"), (0, u "()V"), (2, .long 9223372036854775808), (1, .methodref 12 13), (0, .class_ 14), (0, .nameAndType 15 16), (0, u "com/example/indexwright/indexwright/Unscaled"), (0, u "product"), (0, u "(JJ)J"), (0, .methodref 18 19), (0, .class_ 20), (0, .nameAndType 21 16), (0, u "com/example/indexwright/indexwright/UnscaledProductPinLaw"), (0, u "reference"), (3, u "law"), (0, u "(JJII)Z")] 2

def k1m0 : Method := { name := "<init>", desc := "()V", sig := { parameters := [], returnType := none }, accessFlags := 2, code := none }
def k1c1 : Code := { maxStack := 4, maxLocals := 6, code := method_2_code, exceptionTable := #[], attributes := #[] }
def k1m1 : Method := { name := "reference", desc := "(JJ)J", sig := { parameters := [.long, .long], returnType := some .long }, accessFlags := 10, code := some k1c1 }
def k1c2 : Code := { maxStack := 6, maxLocals := 12, code := code, exceptionTable := #[], attributes := #[] }
def k1m2 : Method := { name := "law", desc := "(JJII)Z", sig := { parameters := [.long, .long, .int, .int], returnType := some .boolean }, accessFlags := 9, code := some k1c2 }
/-- com/example/indexwright/indexwright/UnscaledProductPinLaw -/
def k1 : Class := { plain "com/example/indexwright/indexwright/UnscaledProductPinLaw" (some 0) with
  accessFlags := 49
  interfaces := #[]
  cf := some (fileOf pool1 18 #[] #[{ accessFlags := 2, nameIndex := 5, descriptorIndex := 6, attributes := #[] }, { accessFlags := 10, nameIndex := 21, descriptorIndex := 16, attributes := #[] }, { accessFlags := 9, nameIndex := 25, descriptorIndex := 26, attributes := #[] }] 49 2 #[] #[])
  fields := #[]
  methods := #[k1m0, k1m1, k1m2]
  instanceTypes := #[]
  staticTypes := #[]
  resolved := Array.replicate 29 none
  statics := none }

def pool2 : Array CpInfo := pool [(4, .class_ 6), (1, u "java/lang/Object"), (0, u "<init>"), (0, u "()V"), (6, .class_ 16), (0, u "com/example/indexwright/indexwright/Unscaled"), (0, .long 9223372036854775808), (14, u "POWERS_OF_TEN"), (0, u "[J"), (0, .methodref 35 36), (0, .class_ 37), (0, .nameAndType 38 39), (0, u "java/lang/Math"), (0, u "multiplyHigh"), (0, u "(JJ)J"), (2, u "product"), (6, u "TOO_LARGE"), (0, u "J"), (1, u "DIGITS"), (0, u "I")] 14

def k2m0 : Method := { name := "<init>", desc := "()V", sig := { parameters := [], returnType := none }, accessFlags := 2, code := none }
def k2c1 : Code := { maxStack := 5, maxLocals := 6, code := prog_9_method_4_code, exceptionTable := #[], attributes := #[] }
def k2m1 : Method := { name := "product", desc := "(JJ)J", sig := { parameters := [.long, .long], returnType := some .long }, accessFlags := 9, code := some k2c1 }
/-- com/example/indexwright/indexwright/Unscaled -/
def k2 : Class := { plain "com/example/indexwright/indexwright/Unscaled" (some 0) with
  accessFlags := 49
  interfaces := #[]
  cf := some (fileOf pool2 15 #[] #[{ accessFlags := 2, nameIndex := 7, descriptorIndex := 8, attributes := #[] }, { accessFlags := 9, nameIndex := 42, descriptorIndex := 39, attributes := #[] }] 49 4 #[] #[{ accessFlags := 25, nameIndex := 49, descriptorIndex := 50, attributes := #[] }, { accessFlags := 25, nameIndex := 52, descriptorIndex := 53, attributes := #[] }, { accessFlags := 26, nameIndex := 32, descriptorIndex := 33, attributes := #[] }])
  fields := #[{ name := "TOO_LARGE", type := .long, accessFlags := 25, slot := 0, constantValue := 0 }, { name := "DIGITS", type := .int, accessFlags := 25, slot := 1, constantValue := 0 }, { name := "POWERS_OF_TEN", type := (.array .long), accessFlags := 26, slot := 2, constantValue := 0 }]
  methods := #[k2m0, k2m1]
  instanceTypes := #[]
  staticTypes := #[.long, .int, (.array .long)]
  resolved := Array.replicate 68 none
  statics := none }

def pool3 : Array CpInfo := pool [(1, .class_ 2), (0, u "java/lang/Math"), (1, .class_ 6), (1, u "java/lang/Object"), (0, u "<init>"), (0, u "()V"), (89, .class_ 100), (1, u "java/lang/Math$RandomNumberGeneratorHolder"), (20, u "(JJ)J"), (16, .long 4294967295), (3, u "multiplyHigh"), (29, u "negativeZeroFloatBits"), (0, u "J"), (2, u "negativeZeroDoubleBits"), (68, u "$assertionsDisabled"), (0, u "Z"), (91, u "twoToTheDoubleScaleDown"), (0, u "D"), (4, u "twoToTheDoubleScaleUp"), (9, u "E"), (3, u "PI"), (2, u "TAU"), (2, u "DEGREES_TO_RADIANS"), (0, u "RADIANS_TO_DEGREES")] 94

def k3m0 : Method := { name := "<init>", desc := "()V", sig := { parameters := [], returnType := none }, accessFlags := 2, code := none }
def k3c1 : Code := { maxStack := 6, maxLocals := 20, code := jdk_29_method_45_code, exceptionTable := #[], attributes := #[] }
def k3m1 : Method := { name := "multiplyHigh", desc := "(JJ)J", sig := { parameters := [.long, .long], returnType := some .long }, accessFlags := 9, code := some k3c1 }
/-- java/lang/Math -/
def k3 : Class := { plain "java/lang/Math" (some 0) with
  accessFlags := 49
  interfaces := #[]
  cf := some (fileOf pool3 1 #[.nestMembers #[98]] #[{ accessFlags := 2, nameIndex := 7, descriptorIndex := 8, attributes := #[] }, { accessFlags := 9, nameIndex := 142, descriptorIndex := 121, attributes := #[] }] 49 4 #[] #[{ accessFlags := 25, nameIndex := 354, descriptorIndex := 339, attributes := #[] }, { accessFlags := 25, nameIndex := 358, descriptorIndex := 339, attributes := #[] }, { accessFlags := 25, nameIndex := 361, descriptorIndex := 339, attributes := #[] }, { accessFlags := 26, nameIndex := 364, descriptorIndex := 339, attributes := #[] }, { accessFlags := 26, nameIndex := 365, descriptorIndex := 339, attributes := #[] }, { accessFlags := 26, nameIndex := 172, descriptorIndex := 173, attributes := #[] }, { accessFlags := 26, nameIndex := 176, descriptorIndex := 173, attributes := #[] }, { accessFlags := 8, nameIndex := 344, descriptorIndex := 339, attributes := #[] }, { accessFlags := 8, nameIndex := 338, descriptorIndex := 339, attributes := #[] }, { accessFlags := 4120, nameIndex := 245, descriptorIndex := 246, attributes := #[] }])
  fields := #[{ name := "E", type := .double, accessFlags := 25, slot := 0, constantValue := 0 }, { name := "PI", type := .double, accessFlags := 25, slot := 1, constantValue := 0 }, { name := "TAU", type := .double, accessFlags := 25, slot := 2, constantValue := 0 }, { name := "DEGREES_TO_RADIANS", type := .double, accessFlags := 26, slot := 3, constantValue := 0 }, { name := "RADIANS_TO_DEGREES", type := .double, accessFlags := 26, slot := 4, constantValue := 0 }, { name := "negativeZeroFloatBits", type := .long, accessFlags := 26, slot := 5, constantValue := 0 }, { name := "negativeZeroDoubleBits", type := .long, accessFlags := 26, slot := 6, constantValue := 0 }, { name := "twoToTheDoubleScaleUp", type := .double, accessFlags := 8, slot := 7, constantValue := 0 }, { name := "twoToTheDoubleScaleDown", type := .double, accessFlags := 8, slot := 8, constantValue := 0 }, { name := "$assertionsDisabled", type := .boolean, accessFlags := 4120, slot := 9, constantValue := 0 }]
  methods := #[k3m0, k3m1]
  instanceTypes := #[]
  staticTypes := #[.double, .double, .double, .double, .double, .long, .long, .double, .double, .boolean]
  resolved := Array.replicate 460 none
  statics := none }

def pool4 : Array CpInfo := pool [(1, u "java/lang/Cloneable"), (0, .class_ 1), (0, u "java/lang/Object"), (0, .class_ 3)] 3

/-- java/lang/Cloneable -/
def k4 : Class := { plain "java/lang/Cloneable" (some 0) with
  accessFlags := 1537
  interfaces := #[]
  cf := some (fileOf pool4 2 #[] #[] 1537 4 #[] #[])
  fields := #[]
  methods := #[]
  instanceTypes := #[]
  staticTypes := #[]
  resolved := Array.replicate 8 none
  statics := none }

def pool5 : Array CpInfo := pool [(1, u "java/io/Serializable"), (0, .class_ 1), (0, u "java/lang/Object"), (0, .class_ 3)] 3

/-- java/io/Serializable -/
def k5 : Class := { plain "java/io/Serializable" (some 0) with
  accessFlags := 1537
  interfaces := #[]
  cf := some (fileOf pool5 2 #[] #[] 1537 4 #[] #[])
  fields := #[]
  methods := #[]
  instanceTypes := #[]
  staticTypes := #[]
  resolved := Array.replicate 8 none
  statics := none }

/-- the primitive byte -/
def k6 : Class := { plain "byte" none with kind := .primitive 'B', accessFlags := 0x411 }
/-- [B -/
def k7 : Class := { plain "[B" (some 0) with kind := .array 6 .byte, interfaces := #[4, 5], accessFlags := 1041 }

/-- the primitive int -/
def k8 : Class := { plain "int" none with kind := .primitive 'I', accessFlags := 0x411 }
/-- [I -/
def k9 : Class := { plain "[I" (some 0) with kind := .array 8 .int, interfaces := #[4, 5], accessFlags := 1041 }

def heap : Heap := #[]
def classes : Array Class := #[k0, k1, k2, k3, k4, k5, k6, k7, k8, k9]
def interned : List (Array UInt16 × Addr) := []
def slotsUsed : Nat := 0
def theMethod : MethodId := ⟨1, 2⟩
def args0 : Array Value := #[.long 5, .long 7, .int 3, .int 9]
def aboutOver (below : List Frame) : State where
  vm := { classes := classes, interned := interned.toArray }
  heap := heap
  slotsUsed := slotsUsed
  threads := #[{ frames := .invoking theMethod args0 :: below }]
def below0 : List Frame := [.native { method := ⟨0, 0⟩, args := #[] }]
def about1 : State := aboutOver below0
def p0 : Program := .bare "" "" ""
def e0 : Env := launch0.env 0 0 0
theorem w_frames : about1.frames = Frame.invoking theMethod args0 :: below0 := rfl
set_option maxRecDepth 65536 in
theorem w_args : argsFit about1.vm theMethod args0 = true := by decide +kernel
set_option maxRecDepth 65536 in
theorem w_heap : heapFits about1 = true := by decide +kernel
set_option maxRecDepth 65536 in
theorem w_runnable : about1.curStatus? = some .runnable := by decide +kernel
set_option maxRecDepth 65536 in
theorem w_alone : about1.alone = true := by decide +kernel
set_option maxRecDepth 65536 in
theorem w_named : about1.methodNamed? x = some theMethod := by decide +kernel
set_option maxRecDepth 65536 in
theorem w_hears : about1.hears theMethod below0 = true := by decide +kernel
set_option maxRecDepth 65536 in
theorem w_ripe : about1.ripe theMethod args0 below0 = true := by decide +kernel
theorem w_running : about1.status = .running := rfl
set_option maxRecDepth 65536 in
theorem w_room : about1.hasRoom e0.platform room_1 = true :=
  launch0.hasRoom_least _ room_1 (by decide +kernel) (by decide +kernel) (by decide +kernel) (by decide +kernel) (by decide +kernel) (by decide +kernel)
theorem allAtoms_all (ts : List Jvm.Cond) (a : Array Jvm.Value) (st : Jvm.State) : (allAtoms ts).before a st = ts.all (fun c => c.before a st) := by
  induction ts with
  | nil => rfl
  | cons c t ih =>
    show (Jvm.Cond.and c (allAtoms t)).before a st = _
    rw [Jvm.Cond.before_and, ih, List.all_cons]
def words1 : List Jvm.Cond := Jvm.Cond.code x code maxLocals ret :: tables_1
/-- a 'code' word, met by the world's own term for the bytes: nothing is compared byte by byte -/
theorem code_word {y : MethodName} {bytes : ByteArray} {mx : Nat} {rt : Option FieldType} {a : Array Value} {s : State} {m : MethodId} {meth : Method} {c : Code} (h1 : s.methodNamed? y = some m) (h2 : s.vm.method? m = some meth) (h3 : meth.code = some c) (h4 : c.code = bytes)
    (h5 : (c.maxLocals == mx && c.exceptionTable.isEmpty && decide (c.maxStack ≤ mostOperands) && decide (meth.sig.returnType = rt) && !meth.locks && decide (parseMethodDescriptor y.desc = some meth.sig)) = true) : (Jvm.Cond.code y bytes mx rt).before a s = true := by
  simp only [Bool.and_eq_true, beq_iff_eq, Bool.not_eq_true', decide_eq_true_eq] at h5
  obtain ⟨⟨⟨⟨⟨g1, g2⟩, g3⟩, g4⟩, g5⟩, g6⟩ := h5
  simp [Cond.before, Cond.holds, Cond.value, h1, h2, h3, h4, g1, g2, g3, g4, g5, g6]
def isCode : Jvm.Cond → Bool
  | .code _ _ _ _ => true
  | _ => false
theorem all_split {L : List Jvm.Cond} {P : Jvm.Cond → Bool} (h1 : L.all (fun c => isCode c || P c) = true) (h2 : ∀ c ∈ L.filter isCode, P c = true) : L.all P = true := by
  refine List.all_eq_true.mpr fun c hc => ?_
  have h := List.all_eq_true.mp h1 c hc
  rcases Bool.eq_false_or_eq_true (isCode c) with hi | hi
  · exact h2 c (List.mem_filter.mpr ⟨hc, hi⟩)
  · simpa [hi] using h
set_option maxRecDepth 65536 in
theorem w_c0 : (Jvm.Cond.code x code maxLocals ret).before args0 about1 = true := code_word (m := ⟨1, 2⟩) (meth := k1m2) (c := k1c2) (by decide +kernel) rfl rfl rfl (by decide +kernel)
set_option maxRecDepth 65536 in
theorem w_c1 : (Jvm.Cond.code ({ cls := "com/example/indexwright/indexwright/Unscaled", name := "product", desc := "(JJ)J" } : Jvm.MethodName) prog_9_method_4_code (6 : Nat) (Option.some Jvm.ClassFile.FieldType.long)).before args0 about1 = true := code_word (m := ⟨2, 1⟩) (meth := k2m1) (c := k2c1) (by decide +kernel) rfl rfl rfl (by decide +kernel)
set_option maxRecDepth 65536 in
theorem w_c2 : (Jvm.Cond.code ({ cls := "java/lang/Math", name := "multiplyHigh", desc := "(JJ)J" } : Jvm.MethodName) jdk_29_method_45_code (20 : Nat) (Option.some Jvm.ClassFile.FieldType.long)).before args0 about1 = true := code_word (m := ⟨3, 1⟩) (meth := k3m1) (c := k3c1) (by decide +kernel) rfl rfl rfl (by decide +kernel)
set_option maxRecDepth 65536 in
theorem w_c3 : (Jvm.Cond.code ({ cls := "com/example/indexwright/indexwright/UnscaledProductPinLaw", name := "reference", desc := "(JJ)J" } : Jvm.MethodName) method_2_code (6 : Nat) (Option.some Jvm.ClassFile.FieldType.long)).before args0 about1 = true := code_word (m := ⟨1, 1⟩) (meth := k1m1) (c := k1c1) (by decide +kernel) rfl rfl rfl (by decide +kernel)
def codes1 : List Jvm.Cond := [Jvm.Cond.code x code maxLocals ret, Jvm.Cond.code ({ cls := "com/example/indexwright/indexwright/Unscaled", name := "product", desc := "(JJ)J" } : Jvm.MethodName) prog_9_method_4_code (6 : Nat) (Option.some Jvm.ClassFile.FieldType.long), Jvm.Cond.code ({ cls := "java/lang/Math", name := "multiplyHigh", desc := "(JJ)J" } : Jvm.MethodName) jdk_29_method_45_code (20 : Nat) (Option.some Jvm.ClassFile.FieldType.long), Jvm.Cond.code ({ cls := "com/example/indexwright/indexwright/UnscaledProductPinLaw", name := "reference", desc := "(JJ)J" } : Jvm.MethodName) method_2_code (6 : Nat) (Option.some Jvm.ClassFile.FieldType.long)]
set_option maxRecDepth 65536 in
theorem codes_eq : words1.filter isCode = codes1 := rfl
theorem w_codes : ∀ c ∈ words1.filter isCode, c.before args0 about1 = true := by
  rw [codes_eq]
  intro c hc
  simp only [codes1, List.mem_cons, List.not_mem_nil, or_false] at hc
  rcases hc with rfl | rfl | rfl | rfl
  · exact w_c0
  · exact w_c1
  · exact w_c2
  · exact w_c3
set_option maxRecDepth 65536 in
theorem w_t1 : words1.all (fun c => isCode c || c.before args0 about1) = true := by decide +kernel
theorem w_tables : (allAtoms (Jvm.Cond.code x code maxLocals ret :: tables_1)).before args0 about1 = true := by
  rw [allAtoms_all]
  show words1.all (fun c => c.before args0 about1) = true
  refine all_split ?_ w_codes
  rw [w_t1]
set_option maxRecDepth 65536 in
theorem w_case : (Jvm.Cond.and given_1 narrow_1).before args0 about1 = true := by decide +kernel
theorem w_applies : (headSpec (Jvm.Cond.code x code maxLocals ret :: tables_1) room_1).applies x e0.platform about1 = true :=
  (Spec.applies_iff w_frames).mpr ⟨w_running, w_runnable, w_alone, w_named, w_hears, w_ripe, w_room, w_tables⟩
theorem atStart : AtStart classFile x code maxLocals ret World_1 tables_1 room_1 Calls_1 rest_1 Pre_1 launch0 p0 e0 about1 theMethod args0 below0 :=
  ⟨lists_1, trivial, launch0.admits_env _ _ _, launch0.least_env, fairChoices_fair.cas, fairChoices_fair.clock, w_frames, w_args, w_heap, w_applies, trivial, trivial, w_case⟩
end start1
theorem witness_1 : WitnessClaimed_1 := ⟨start1.p0, start1.e0, start1.about1, start1.theMethod, start1.args0, start1.below0, start1.atStart⟩
end Jvm.Pilot.@@N@@
