import JvmDerived
import JvmDerived.Pilot.@@N@@Statement
import JvmDerived.Pilot.@@N@@Code
set_option linter.unusedVariables false
set_option linter.unusedSimpArgs false
namespace Jvm.RoadKit
open Sem ClassFile Op Lib Jvm.Stand Jvm.Free Jvm.LawKit
section New
variable {p : Program} {l : Launch} {e : Env} {R : Room} {s : State} {m : MethodId} {args : Array Value} {below : List Frame} {meth : Method} {c : Code} {T : State} {locs : List Loc} {cells slots : Nat}
theorem retI (X : Stand p l e R s m args below meth c T locs cells slots) (hx : p.tables.exec = Jvm.exec) {pc : Nat} {Ls : Array Slot} {z : Int32} {rest : List Value} (hret : meth.sig.returnType = some .int) (hd : decode c.code pc = .ok (.ireturn, 1)) {fs : List Frame}
    (hl : ∀ (f : JFrame) (acts : List Action), f.method = m → f.locked = none → f.entered = [] → (doReturn e (T.setTop f) acts (some (.int z))).1 = T.setFrames fs) : Steps p.tables e below (T.setTop (mkF m pc Ls (.int z :: rest))) (T.setFrames fs) := by
  have hm' : T.vm.method? m = some meth := X.method'
  have hn : narrow .int (.int z) = .int z := rfl
  show Steps p.tables e below (T.setTop { method := m, pc := pc, locals := Ls, stack := _ :: rest, locked := none }) _
  jvm_step X.here [X.here.top, hx, hd, hm', hret, hn]
  first | (intro acts; rw [hl _ acts rfl rfl rfl]) | rw [hl _ _ rfl rfl rfl]
  exact Steps.refl _
/-- from here the invocation comes to an end of which R holds -/
def Goes (p : Program) (e : Env) (below : List Frame) (cur : State) (R : State → Outcome → Prop) : Prop := ∃ s₂ o, Steps p.tables e below cur s₂ ∧ s₂.status = .running ∧ Ended s₂ below o ∧ R s₂ o
theorem Goes.via {cur next : State} {R : State → Outcome → Prop} (k : ∀ t, Steps p.tables e below next t → Steps p.tables e below cur t) (h : Goes p e below next R) : Goes p e below cur R := by
  obtain ⟨s₂, o, h1, h2⟩ := h
  exact ⟨s₂, o, k _ h1, h2⟩
/-- the places written so far, as one unknown list -/
theorem ownPack (X : Stand p l e R s m args below meth c T locs cells slots) {n0 : Nat} (N : Fr n0 locs) : ∃ L, Stand p l e R s m args below meth c T L cells slots ∧ Fr n0 L := ⟨_, X, N⟩
end New
end Jvm.RoadKit
namespace Jvm.Pilot.@@N@@
open Jvm Jvm.ClassFile Sem Op Lib Jvm.Free Jvm.Stand Jvm.LawKit Jvm.RoadKit Bundle Jvm.Pilot.@@N@@.Jvm.D
abbrev own_list : List Value := [(.int (9 : Int32)), (.int (13 : Int32)), (.int (32 : Int32)), (.int (32 : Int32)), (.int (160 : Int32)), (.int (160 : Int32)), (.int (5760 : Int32)), (.int (5760 : Int32)), (.int (8192 : Int32)), (.int (8202 : Int32)), (.int (8232 : Int32)), (.int (8233 : Int32)), (.int (8239 : Int32)), (.int (8239 : Int32)), (.int (8287 : Int32)), (.int (8287 : Int32)), (.int (12288 : Int32)), (.int (12288 : Int32)), (.int (65279 : Int32)), (.int (65279 : Int32))]
theorem d3_0 : decode jdk_65_method_59_code 0 = .ok (.iload_n 1, 1) := by decide +kernel
theorem d3_1 : decode jdk_65_method_59_code 1 = .ok (.istore 4, 2) := by decide +kernel
theorem d3_3 : decode jdk_65_method_59_code 3 = .ok (.iload_n 2, 1) := by decide +kernel
theorem d3_4 : decode jdk_65_method_59_code 4 = .ok (.iconst 1, 1) := by decide +kernel
theorem d3_5 : decode jdk_65_method_59_code 5 = .ok (.isub, 1) := by decide +kernel
theorem d3_6 : decode jdk_65_method_59_code 6 = .ok (.istore 5, 2) := by decide +kernel
theorem d3_8 : decode jdk_65_method_59_code 8 = .ok (.iload 4, 2) := by decide +kernel
theorem d3_10 : decode jdk_65_method_59_code 10 = .ok (.iload 5, 2) := by decide +kernel
theorem d3_12 : decode jdk_65_method_59_code 12 = .ok (.if_icmp .gt 54, 3) := by decide +kernel
theorem d3_15 : decode jdk_65_method_59_code 15 = .ok (.iload 4, 2) := by decide +kernel
theorem d3_17 : decode jdk_65_method_59_code 17 = .ok (.iload 5, 2) := by decide +kernel
theorem d3_19 : decode jdk_65_method_59_code 19 = .ok (.iadd, 1) := by decide +kernel
theorem d3_20 : decode jdk_65_method_59_code 20 = .ok (.iconst 1, 1) := by decide +kernel
theorem d3_21 : decode jdk_65_method_59_code 21 = .ok (.iushr, 1) := by decide +kernel
theorem d3_22 : decode jdk_65_method_59_code 22 = .ok (.istore 6, 2) := by decide +kernel
theorem d3_24 : decode jdk_65_method_59_code 24 = .ok (.aload_n 0, 1) := by decide +kernel
theorem d3_25 : decode jdk_65_method_59_code 25 = .ok (.iload 6, 2) := by decide +kernel
theorem d3_27 : decode jdk_65_method_59_code 27 = .ok (.iaload, 1) := by decide +kernel
theorem d3_28 : decode jdk_65_method_59_code 28 = .ok (.istore 7, 2) := by decide +kernel
theorem d3_30 : decode jdk_65_method_59_code 30 = .ok (.iload 7, 2) := by decide +kernel
theorem d3_32 : decode jdk_65_method_59_code 32 = .ok (.iload_n 3, 1) := by decide +kernel
theorem d3_33 : decode jdk_65_method_59_code 33 = .ok (.if_icmp .ge 12, 3) := by decide +kernel
theorem d3_36 : decode jdk_65_method_59_code 36 = .ok (.iload 6, 2) := by decide +kernel
theorem d3_38 : decode jdk_65_method_59_code 38 = .ok (.iconst 1, 1) := by decide +kernel
theorem d3_39 : decode jdk_65_method_59_code 39 = .ok (.iadd, 1) := by decide +kernel
theorem d3_40 : decode jdk_65_method_59_code 40 = .ok (.istore 4, 2) := by decide +kernel
theorem d3_42 : decode jdk_65_method_59_code 42 = .ok (.goto 21, 3) := by decide +kernel
theorem d3_45 : decode jdk_65_method_59_code 45 = .ok (.iload 7, 2) := by decide +kernel
theorem d3_47 : decode jdk_65_method_59_code 47 = .ok (.iload_n 3, 1) := by decide +kernel
theorem d3_48 : decode jdk_65_method_59_code 48 = .ok (.if_icmp .le 12, 3) := by decide +kernel
theorem d3_51 : decode jdk_65_method_59_code 51 = .ok (.iload 6, 2) := by decide +kernel
theorem d3_53 : decode jdk_65_method_59_code 53 = .ok (.iconst 1, 1) := by decide +kernel
theorem d3_54 : decode jdk_65_method_59_code 54 = .ok (.isub, 1) := by decide +kernel
theorem d3_55 : decode jdk_65_method_59_code 55 = .ok (.istore 5, 2) := by decide +kernel
theorem d3_57 : decode jdk_65_method_59_code 57 = .ok (.goto 6, 3) := by decide +kernel
theorem d3_60 : decode jdk_65_method_59_code 60 = .ok (.iload 6, 2) := by decide +kernel
theorem d3_62 : decode jdk_65_method_59_code 62 = .ok (.ireturn, 1) := by decide +kernel
theorem d3_63 : decode jdk_65_method_59_code 63 = .ok (.goto (-55), 3) := by decide +kernel
theorem d3_66 : decode jdk_65_method_59_code 66 = .ok (.iload 4, 2) := by decide +kernel
theorem d3_68 : decode jdk_65_method_59_code 68 = .ok (.iconst 1, 1) := by decide +kernel
theorem d3_69 : decode jdk_65_method_59_code 69 = .ok (.iadd, 1) := by decide +kernel
theorem d3_70 : decode jdk_65_method_59_code 70 = .ok (.ineg, 1) := by decide +kernel
theorem d3_71 : decode jdk_65_method_59_code 71 = .ok (.ireturn, 1) := by decide +kernel
theorem pn_3 : plainName "java/util/Arrays" = true := by first | (simp [plainName, overriddenIn]; done) | decide +kernel
theorem ef_3 (m : MethodId) (x0 : Addr) (x3 : Int32) : entryFrame m #[(.ref x0), (.int (0 : Int32)), (.int (20 : Int32)), (.int x3)] 8 = mkF m 0 #[.val (.ref x0), .val (.int (0 : Int32)), .val (.int (20 : Int32)), .val (.int x3), .unset, .unset, .unset, .unset] [] := by first | (simp [entryFrame, mkF, argsToLocals, Value.category]; done) | rfl
def f3 (a1 : Addr) (p4 : Int32) : Int32 :=
  if (8202 : Int32) < p4 then (if (8287 : Int32) < p4 then (if (12288 : Int32) < p4 then (if (65279 : Int32) < p4 then (-21 : Int32) else
  if p4 < (65279 : Int32) then (-19 : Int32) else
  (18 : Int32)) else
  if p4 < (12288 : Int32) then (-17 : Int32) else
  (17 : Int32)) else
  if p4 < (8287 : Int32) then (if (8233 : Int32) < p4 then (if (8239 : Int32) < p4 then (-15 : Int32) else
  if p4 < (8239 : Int32) then (-13 : Int32) else
  (12 : Int32)) else
  if p4 < (8233 : Int32) then (if (8232 : Int32) < p4 then (-12 : Int32) else
  if p4 < (8232 : Int32) then (-11 : Int32) else
  (10 : Int32)) else
  (11 : Int32)) else
  (14 : Int32)) else
  if p4 < (8202 : Int32) then (if (160 : Int32) < p4 then (if (5760 : Int32) < p4 then (if (8192 : Int32) < p4 then (-10 : Int32) else
  if p4 < (8192 : Int32) then (-9 : Int32) else
  (8 : Int32)) else
  if p4 < (5760 : Int32) then (-7 : Int32) else
  (6 : Int32)) else
  if p4 < (160 : Int32) then (if (13 : Int32) < p4 then (if (32 : Int32) < p4 then (-5 : Int32) else
  if p4 < (32 : Int32) then (-3 : Int32) else
  (2 : Int32)) else
  if p4 < (13 : Int32) then (if (9 : Int32) < p4 then (-2 : Int32) else
  if p4 < (9 : Int32) then (-1 : Int32) else
  (0 : Int32)) else
  (1 : Int32)) else
  (4 : Int32)) else
  (9 : Int32)
def Q3 (Z : State) (a1 : Addr) (p4 : Int32) (h0 : Heap) (n0 : Nat) (v : Option Value) (h : Heap) (L : List Loc) : Prop := v = some (.int (f3 a1 p4)) ∧ Fr n0 L ∧ h = h0
set_option maxRecDepth 65536 in
set_option maxHeartbeats 40000000 in
theorem rm3 (l : Launch) (Z : State) (a0 : Array Value) (hw : ∀ d ∈ tables_1, d.before a0 Z = true) (ws : List Jvm.Cond) (a1 : Addr) (p4 : Int32) (kR : ClassId) (h0 : Heap) (n0 : Nat) (Z0 : n0 ≤ h0.size) (V1 : Arv Z h0 a1 kR .int (20 : Int32) own_list (.int (0 : Int32))) :
    MetFree l (⟨"java/util/Arrays", "binarySearch0", "([IIII)I"⟩ : MethodName) (head1 (Jvm.Cond.code (⟨"java/util/Arrays", "binarySearch0", "([IIII)I"⟩ : MethodName) jdk_65_method_59_code 8 (some .int) :: ws) ({ frames := 0, cells := 0, slots := 0, locals := 0 } : Room)) (fun a U => a = #[(.ref a1), (.int (0 : Int32)), (.int (20 : Int32)), (.int p4)] ∧ Z.Warmed39 U.vm ∧ U.heap = h0) (fun _ _ _ _ _ => True) (fun _ U o U' => ∃ v L, o = .returned v ∧ Q3 Z a1 p4 h0 n0 v U'.heap L ∧ FrameEnd U o U' L ({ frames := 0, cells := 0, slots := 0, locals := 0 } : Room).cells ({ frames := 0, cells := 0, slots := 0, locals := 0 } : Room).slots) := by
  refine MetFree.of_bodySF (plainFor_of_name pn_3) hisR ?_
  intro p e s m args below meth c s₁ Bd hml0 hP hK
  obtain ⟨rfl, hZ, hh⟩ := hP
  have hx := Bd.exec
  have hby := Bd.bytes
  have hml : c.maxLocals = 8 := hml0
  have hown : s.vm.findClass "java/util/Arrays" = some m.cls := findClass_of_methodNamed Bd.named
  have hnm := (name_of_methodNamed Bd.named Bd.method).1
  have X0 : Stand p l e ({ frames := 0, cells := 0, slots := 0, locals := 0 } : Room) s m #[(.ref a1), (.int (0 : Int32)), (.int (20 : Int32)), (.int p4)] below meth c s₁ [] 0 0 := Stand.of_body Bd
  have e0 : s₁.heap = h0 := by rw [← hh, Bd.state]; rfl
  have N0 := Fr.nil n0
  refine Goes.via (next := s₁.setTop (mkF m 0 #[.val (.ref a1), .val (.int (0 : Int32)), .val (.int (20 : Int32)), .val (.int p4), .unset, .unset, .unset, .unset] [])) (fun t k => castTop (ef_3 m a1 p4) k) ?_
  refine Goes.via (fun t k => XS.iloadN X0.here hx rfl (hb hby d3_0) rfl k) ?_
  show Goes p e below (s₁.setTop (mkF m 1 #[.val (.ref a1), .val (.int (0 : Int32)), .val (.int (20 : Int32)), .val (.int p4), .unset, .unset, .unset, .unset] [(.int (0 : Int32))])) _
  refine Goes.via (fun t k => XS.istore X0.here hx rfl (hb hby d3_1) rfl (l' := #[.val (.ref a1), .val (.int (0 : Int32)), .val (.int (20 : Int32)), .val (.int p4), .val (.int (0 : Int32)), .unset, .unset, .unset]) rfl k) ?_
  show Goes p e below (s₁.setTop (mkF m 3 #[.val (.ref a1), .val (.int (0 : Int32)), .val (.int (20 : Int32)), .val (.int p4), .val (.int (0 : Int32)), .unset, .unset, .unset] [])) _
  refine Goes.via (fun t k => XS.iloadN X0.here hx rfl (hb hby d3_3) rfl k) ?_
  show Goes p e below (s₁.setTop (mkF m 4 #[.val (.ref a1), .val (.int (0 : Int32)), .val (.int (20 : Int32)), .val (.int p4), .val (.int (0 : Int32)), .unset, .unset, .unset] [(.int (20 : Int32))])) _
  refine Goes.via (fun t k => XS.iconst X0.here hx rfl (hb hby d3_4) k) ?_
  show Goes p e below (s₁.setTop (mkF m 5 #[.val (.ref a1), .val (.int (0 : Int32)), .val (.int (20 : Int32)), .val (.int p4), .val (.int (0 : Int32)), .unset, .unset, .unset] [(.int (1 : Int32)), (.int (20 : Int32))])) _
  refine Goes.via (fun t k => XS.isub X0.here hx rfl (hb hby d3_5) rfl k) ?_
  show Goes p e below (s₁.setTop (mkF m 6 #[.val (.ref a1), .val (.int (0 : Int32)), .val (.int (20 : Int32)), .val (.int p4), .val (.int (0 : Int32)), .unset, .unset, .unset] [(.int (19 : Int32))])) _
  refine Goes.via (fun t k => XS.istore X0.here hx rfl (hb hby d3_6) rfl (l' := #[.val (.ref a1), .val (.int (0 : Int32)), .val (.int (20 : Int32)), .val (.int p4), .val (.int (0 : Int32)), .val (.int (19 : Int32)), .unset, .unset]) rfl k) ?_
  show Goes p e below (s₁.setTop (mkF m 8 #[.val (.ref a1), .val (.int (0 : Int32)), .val (.int (20 : Int32)), .val (.int p4), .val (.int (0 : Int32)), .val (.int (19 : Int32)), .unset, .unset] [])) _
  refine Goes.via (fun t k => XS.iload X0.here hx rfl (hb hby d3_8) rfl k) ?_
  show Goes p e below (s₁.setTop (mkF m 10 #[.val (.ref a1), .val (.int (0 : Int32)), .val (.int (20 : Int32)), .val (.int p4), .val (.int (0 : Int32)), .val (.int (19 : Int32)), .unset, .unset] [(.int (0 : Int32))])) _
  refine Goes.via (fun t k => XS.iload X0.here hx rfl (hb hby d3_10) rfl k) ?_
  show Goes p e below (s₁.setTop (mkF m 12 #[.val (.ref a1), .val (.int (0 : Int32)), .val (.int (20 : Int32)), .val (.int p4), .val (.int (0 : Int32)), .val (.int (19 : Int32)), .unset, .unset] [(.int (19 : Int32)), (.int (0 : Int32))])) _
  refine Goes.via (fun t k => XS.icmpNo X0.here hx rfl (hb hby d3_12) rfl (flt (show ¬ ((19 : Int32) < (0 : Int32)) from (by decide))).2.2.1 k) ?_
  show Goes p e below (s₁.setTop (mkF m 15 #[.val (.ref a1), .val (.int (0 : Int32)), .val (.int (20 : Int32)), .val (.int p4), .val (.int (0 : Int32)), .val (.int (19 : Int32)), .unset, .unset] [])) _
  refine Goes.via (fun t k => XS.iload X0.here hx rfl (hb hby d3_15) rfl k) ?_
  show Goes p e below (s₁.setTop (mkF m 17 #[.val (.ref a1), .val (.int (0 : Int32)), .val (.int (20 : Int32)), .val (.int p4), .val (.int (0 : Int32)), .val (.int (19 : Int32)), .unset, .unset] [(.int (0 : Int32))])) _
  refine Goes.via (fun t k => XS.iload X0.here hx rfl (hb hby d3_17) rfl k) ?_
  show Goes p e below (s₁.setTop (mkF m 19 #[.val (.ref a1), .val (.int (0 : Int32)), .val (.int (20 : Int32)), .val (.int p4), .val (.int (0 : Int32)), .val (.int (19 : Int32)), .unset, .unset] [(.int (19 : Int32)), (.int (0 : Int32))])) _
  refine Goes.via (fun t k => XS.iadd X0.here hx rfl (hb hby d3_19) rfl k) ?_
  show Goes p e below (s₁.setTop (mkF m 20 #[.val (.ref a1), .val (.int (0 : Int32)), .val (.int (20 : Int32)), .val (.int p4), .val (.int (0 : Int32)), .val (.int (19 : Int32)), .unset, .unset] [(.int (19 : Int32))])) _
  refine Goes.via (fun t k => XS.iconst X0.here hx rfl (hb hby d3_20) k) ?_
  show Goes p e below (s₁.setTop (mkF m 21 #[.val (.ref a1), .val (.int (0 : Int32)), .val (.int (20 : Int32)), .val (.int p4), .val (.int (0 : Int32)), .val (.int (19 : Int32)), .unset, .unset] [(.int (1 : Int32)), (.int (19 : Int32))])) _
  refine Goes.via (fun t k => XS.iushr X0.here hx rfl (hb hby d3_21) rfl k) ?_
  show Goes p e below (s₁.setTop (mkF m 22 #[.val (.ref a1), .val (.int (0 : Int32)), .val (.int (20 : Int32)), .val (.int p4), .val (.int (0 : Int32)), .val (.int (19 : Int32)), .unset, .unset] [(.int (9 : Int32))])) _
  refine Goes.via (fun t k => XS.istore X0.here hx rfl (hb hby d3_22) rfl (l' := #[.val (.ref a1), .val (.int (0 : Int32)), .val (.int (20 : Int32)), .val (.int p4), .val (.int (0 : Int32)), .val (.int (19 : Int32)), .val (.int (9 : Int32)), .unset]) rfl k) ?_
  show Goes p e below (s₁.setTop (mkF m 24 #[.val (.ref a1), .val (.int (0 : Int32)), .val (.int (20 : Int32)), .val (.int p4), .val (.int (0 : Int32)), .val (.int (19 : Int32)), .val (.int (9 : Int32)), .unset] [])) _
  refine Goes.via (fun t k => XS.aloadN X0.here hx rfl (hb hby d3_24) rfl rfl k) ?_
  show Goes p e below (s₁.setTop (mkF m 25 #[.val (.ref a1), .val (.int (0 : Int32)), .val (.int (20 : Int32)), .val (.int p4), .val (.int (0 : Int32)), .val (.int (19 : Int32)), .val (.int (9 : Int32)), .unset] [(.ref a1)])) _
  refine Goes.via (fun t k => XS.iload X0.here hx rfl (hb hby d3_25) rfl k) ?_
  show Goes p e below (s₁.setTop (mkF m 27 #[.val (.ref a1), .val (.int (0 : Int32)), .val (.int (20 : Int32)), .val (.int p4), .val (.int (0 : Int32)), .val (.int (19 : Int32)), .val (.int (9 : Int32)), .unset] [(.int (9 : Int32)), (.ref a1)])) _
  obtain ⟨cl1, Ar1, qa1, Sa1, Na1, Ha1, Ga1⟩ := id V1
  have hin1 : ¬ ((9 : Int32) < 0 ∨ cl1.slots.size ≤ ((9 : Int32)).toNatClampNeg) := inb_of Sa1 ⟨by decide, by decide⟩
  have hat1 : cl1.slots[((9 : Int32)).toNatClampNeg]? = some (.int (8202 : Int32)) := Ha1.at hin1 rfl
  refine Goes.via (fun t k => X0.iaload hx (j := (9 : Int32)) (v := (.int (8202 : Int32))) (by rw [e0]; exact Ar1.1) (State.isArrayOf_alike hZ.alike Ar1.2.1) Ar1.2.2 hin1 hat1 (g := (mkF m 27 #[.val (.ref a1), .val (.int (0 : Int32)), .val (.int (20 : Int32)), .val (.int p4), .val (.int (0 : Int32)), .val (.int (19 : Int32)), .val (.int (9 : Int32)), .unset] [(.int (9 : Int32)), (.ref a1)])) rfl rfl (hb hby d3_27) _ k) ?_
  show Goes p e below (s₁.setTop (mkF m 28 #[.val (.ref a1), .val (.int (0 : Int32)), .val (.int (20 : Int32)), .val (.int p4), .val (.int (0 : Int32)), .val (.int (19 : Int32)), .val (.int (9 : Int32)), .unset] [(.int (8202 : Int32))])) _
  refine Goes.via (fun t k => XS.istore X0.here hx rfl (hb hby d3_28) rfl (l' := #[.val (.ref a1), .val (.int (0 : Int32)), .val (.int (20 : Int32)), .val (.int p4), .val (.int (0 : Int32)), .val (.int (19 : Int32)), .val (.int (9 : Int32)), .val (.int (8202 : Int32))]) rfl k) ?_
  show Goes p e below (s₁.setTop (mkF m 30 #[.val (.ref a1), .val (.int (0 : Int32)), .val (.int (20 : Int32)), .val (.int p4), .val (.int (0 : Int32)), .val (.int (19 : Int32)), .val (.int (9 : Int32)), .val (.int (8202 : Int32))] [])) _
  refine Goes.via (fun t k => XS.iload X0.here hx rfl (hb hby d3_30) rfl k) ?_
  show Goes p e below (s₁.setTop (mkF m 32 #[.val (.ref a1), .val (.int (0 : Int32)), .val (.int (20 : Int32)), .val (.int p4), .val (.int (0 : Int32)), .val (.int (19 : Int32)), .val (.int (9 : Int32)), .val (.int (8202 : Int32))] [(.int (8202 : Int32))])) _
  refine Goes.via (fun t k => XS.iloadN X0.here hx rfl (hb hby d3_32) rfl k) ?_
  show Goes p e below (s₁.setTop (mkF m 33 #[.val (.ref a1), .val (.int (0 : Int32)), .val (.int (20 : Int32)), .val (.int p4), .val (.int (0 : Int32)), .val (.int (19 : Int32)), .val (.int (9 : Int32)), .val (.int (8202 : Int32))] [(.int p4), (.int (8202 : Int32))])) _
  by_cases hc33_2 : (8202 : Int32) < p4
  · refine Goes.via (fun t k => XS.icmpNo X0.here hx rfl (hb hby d3_33) rfl (tlt hc33_2).2.1 k) ?_
    show Goes p e below (s₁.setTop (mkF m 36 #[.val (.ref a1), .val (.int (0 : Int32)), .val (.int (20 : Int32)), .val (.int p4), .val (.int (0 : Int32)), .val (.int (19 : Int32)), .val (.int (9 : Int32)), .val (.int (8202 : Int32))] [])) _
    refine Goes.via (fun t k => XS.iload X0.here hx rfl (hb hby d3_36) rfl k) ?_
    show Goes p e below (s₁.setTop (mkF m 38 #[.val (.ref a1), .val (.int (0 : Int32)), .val (.int (20 : Int32)), .val (.int p4), .val (.int (0 : Int32)), .val (.int (19 : Int32)), .val (.int (9 : Int32)), .val (.int (8202 : Int32))] [(.int (9 : Int32))])) _
    refine Goes.via (fun t k => XS.iconst X0.here hx rfl (hb hby d3_38) k) ?_
    show Goes p e below (s₁.setTop (mkF m 39 #[.val (.ref a1), .val (.int (0 : Int32)), .val (.int (20 : Int32)), .val (.int p4), .val (.int (0 : Int32)), .val (.int (19 : Int32)), .val (.int (9 : Int32)), .val (.int (8202 : Int32))] [(.int (1 : Int32)), (.int (9 : Int32))])) _
    refine Goes.via (fun t k => XS.iadd X0.here hx rfl (hb hby d3_39) rfl k) ?_
    show Goes p e below (s₁.setTop (mkF m 40 #[.val (.ref a1), .val (.int (0 : Int32)), .val (.int (20 : Int32)), .val (.int p4), .val (.int (0 : Int32)), .val (.int (19 : Int32)), .val (.int (9 : Int32)), .val (.int (8202 : Int32))] [(.int (10 : Int32))])) _
    refine Goes.via (fun t k => XS.istore X0.here hx rfl (hb hby d3_40) rfl (l' := #[.val (.ref a1), .val (.int (0 : Int32)), .val (.int (20 : Int32)), .val (.int p4), .val (.int (10 : Int32)), .val (.int (19 : Int32)), .val (.int (9 : Int32)), .val (.int (8202 : Int32))]) rfl k) ?_
    show Goes p e below (s₁.setTop (mkF m 42 #[.val (.ref a1), .val (.int (0 : Int32)), .val (.int (20 : Int32)), .val (.int p4), .val (.int (10 : Int32)), .val (.int (19 : Int32)), .val (.int (9 : Int32)), .val (.int (8202 : Int32))] [])) _
    refine Goes.via (fun t k => XS.goto X0.here hx rfl (pc0 := 42) (pc' := 63) rfl (hb hby d3_42) (by decide) (by decide) k) ?_
    show Goes p e below (s₁.setTop (mkF m 63 #[.val (.ref a1), .val (.int (0 : Int32)), .val (.int (20 : Int32)), .val (.int p4), .val (.int (10 : Int32)), .val (.int (19 : Int32)), .val (.int (9 : Int32)), .val (.int (8202 : Int32))] [])) _
    refine Goes.via (fun t k => XS.goto X0.here hx rfl (pc0 := 63) (pc' := 8) rfl (hb hby d3_63) (by decide) (by decide) k) ?_
    show Goes p e below (s₁.setTop (mkF m 8 #[.val (.ref a1), .val (.int (0 : Int32)), .val (.int (20 : Int32)), .val (.int p4), .val (.int (10 : Int32)), .val (.int (19 : Int32)), .val (.int (9 : Int32)), .val (.int (8202 : Int32))] [])) _
    refine Goes.via (fun t k => XS.iload X0.here hx rfl (hb hby d3_8) rfl k) ?_
    show Goes p e below (s₁.setTop (mkF m 10 #[.val (.ref a1), .val (.int (0 : Int32)), .val (.int (20 : Int32)), .val (.int p4), .val (.int (10 : Int32)), .val (.int (19 : Int32)), .val (.int (9 : Int32)), .val (.int (8202 : Int32))] [(.int (10 : Int32))])) _
    refine Goes.via (fun t k => XS.iload X0.here hx rfl (hb hby d3_10) rfl k) ?_
    show Goes p e below (s₁.setTop (mkF m 12 #[.val (.ref a1), .val (.int (0 : Int32)), .val (.int (20 : Int32)), .val (.int p4), .val (.int (10 : Int32)), .val (.int (19 : Int32)), .val (.int (9 : Int32)), .val (.int (8202 : Int32))] [(.int (19 : Int32)), (.int (10 : Int32))])) _
    refine Goes.via (fun t k => XS.icmpNo X0.here hx rfl (hb hby d3_12) rfl (flt (show ¬ ((19 : Int32) < (10 : Int32)) from (by decide))).2.2.1 k) ?_
    show Goes p e below (s₁.setTop (mkF m 15 #[.val (.ref a1), .val (.int (0 : Int32)), .val (.int (20 : Int32)), .val (.int p4), .val (.int (10 : Int32)), .val (.int (19 : Int32)), .val (.int (9 : Int32)), .val (.int (8202 : Int32))] [])) _
    refine Goes.via (fun t k => XS.iload X0.here hx rfl (hb hby d3_15) rfl k) ?_
    show Goes p e below (s₁.setTop (mkF m 17 #[.val (.ref a1), .val (.int (0 : Int32)), .val (.int (20 : Int32)), .val (.int p4), .val (.int (10 : Int32)), .val (.int (19 : Int32)), .val (.int (9 : Int32)), .val (.int (8202 : Int32))] [(.int (10 : Int32))])) _
    refine Goes.via (fun t k => XS.iload X0.here hx rfl (hb hby d3_17) rfl k) ?_
    show Goes p e below (s₁.setTop (mkF m 19 #[.val (.ref a1), .val (.int (0 : Int32)), .val (.int (20 : Int32)), .val (.int p4), .val (.int (10 : Int32)), .val (.int (19 : Int32)), .val (.int (9 : Int32)), .val (.int (8202 : Int32))] [(.int (19 : Int32)), (.int (10 : Int32))])) _
    refine Goes.via (fun t k => XS.iadd X0.here hx rfl (hb hby d3_19) rfl k) ?_
    show Goes p e below (s₁.setTop (mkF m 20 #[.val (.ref a1), .val (.int (0 : Int32)), .val (.int (20 : Int32)), .val (.int p4), .val (.int (10 : Int32)), .val (.int (19 : Int32)), .val (.int (9 : Int32)), .val (.int (8202 : Int32))] [(.int (29 : Int32))])) _
    refine Goes.via (fun t k => XS.iconst X0.here hx rfl (hb hby d3_20) k) ?_
    show Goes p e below (s₁.setTop (mkF m 21 #[.val (.ref a1), .val (.int (0 : Int32)), .val (.int (20 : Int32)), .val (.int p4), .val (.int (10 : Int32)), .val (.int (19 : Int32)), .val (.int (9 : Int32)), .val (.int (8202 : Int32))] [(.int (1 : Int32)), (.int (29 : Int32))])) _
    refine Goes.via (fun t k => XS.iushr X0.here hx rfl (hb hby d3_21) rfl k) ?_
    show Goes p e below (s₁.setTop (mkF m 22 #[.val (.ref a1), .val (.int (0 : Int32)), .val (.int (20 : Int32)), .val (.int p4), .val (.int (10 : Int32)), .val (.int (19 : Int32)), .val (.int (9 : Int32)), .val (.int (8202 : Int32))] [(.int (14 : Int32))])) _
    refine Goes.via (fun t k => XS.istore X0.here hx rfl (hb hby d3_22) rfl (l' := #[.val (.ref a1), .val (.int (0 : Int32)), .val (.int (20 : Int32)), .val (.int p4), .val (.int (10 : Int32)), .val (.int (19 : Int32)), .val (.int (14 : Int32)), .val (.int (8202 : Int32))]) rfl k) ?_
    show Goes p e below (s₁.setTop (mkF m 24 #[.val (.ref a1), .val (.int (0 : Int32)), .val (.int (20 : Int32)), .val (.int p4), .val (.int (10 : Int32)), .val (.int (19 : Int32)), .val (.int (14 : Int32)), .val (.int (8202 : Int32))] [])) _
    refine Goes.via (fun t k => XS.aloadN X0.here hx rfl (hb hby d3_24) rfl rfl k) ?_
    show Goes p e below (s₁.setTop (mkF m 25 #[.val (.ref a1), .val (.int (0 : Int32)), .val (.int (20 : Int32)), .val (.int p4), .val (.int (10 : Int32)), .val (.int (19 : Int32)), .val (.int (14 : Int32)), .val (.int (8202 : Int32))] [(.ref a1)])) _
    refine Goes.via (fun t k => XS.iload X0.here hx rfl (hb hby d3_25) rfl k) ?_
    show Goes p e below (s₁.setTop (mkF m 27 #[.val (.ref a1), .val (.int (0 : Int32)), .val (.int (20 : Int32)), .val (.int p4), .val (.int (10 : Int32)), .val (.int (19 : Int32)), .val (.int (14 : Int32)), .val (.int (8202 : Int32))] [(.int (14 : Int32)), (.ref a1)])) _
    obtain ⟨cl3, Ar3, qa3, Sa3, Na3, Ha3, Ga3⟩ := id V1
    have hin3 : ¬ ((14 : Int32) < 0 ∨ cl3.slots.size ≤ ((14 : Int32)).toNatClampNeg) := inb_of Sa3 ⟨by decide, by decide⟩
    have hat3 : cl3.slots[((14 : Int32)).toNatClampNeg]? = some (.int (8287 : Int32)) := Ha3.at hin3 rfl
    refine Goes.via (fun t k => X0.iaload hx (j := (14 : Int32)) (v := (.int (8287 : Int32))) (by rw [e0]; exact Ar3.1) (State.isArrayOf_alike hZ.alike Ar3.2.1) Ar3.2.2 hin3 hat3 (g := (mkF m 27 #[.val (.ref a1), .val (.int (0 : Int32)), .val (.int (20 : Int32)), .val (.int p4), .val (.int (10 : Int32)), .val (.int (19 : Int32)), .val (.int (14 : Int32)), .val (.int (8202 : Int32))] [(.int (14 : Int32)), (.ref a1)])) rfl rfl (hb hby d3_27) _ k) ?_
    show Goes p e below (s₁.setTop (mkF m 28 #[.val (.ref a1), .val (.int (0 : Int32)), .val (.int (20 : Int32)), .val (.int p4), .val (.int (10 : Int32)), .val (.int (19 : Int32)), .val (.int (14 : Int32)), .val (.int (8202 : Int32))] [(.int (8287 : Int32))])) _
    refine Goes.via (fun t k => XS.istore X0.here hx rfl (hb hby d3_28) rfl (l' := #[.val (.ref a1), .val (.int (0 : Int32)), .val (.int (20 : Int32)), .val (.int p4), .val (.int (10 : Int32)), .val (.int (19 : Int32)), .val (.int (14 : Int32)), .val (.int (8287 : Int32))]) rfl k) ?_
    show Goes p e below (s₁.setTop (mkF m 30 #[.val (.ref a1), .val (.int (0 : Int32)), .val (.int (20 : Int32)), .val (.int p4), .val (.int (10 : Int32)), .val (.int (19 : Int32)), .val (.int (14 : Int32)), .val (.int (8287 : Int32))] [])) _
    refine Goes.via (fun t k => XS.iload X0.here hx rfl (hb hby d3_30) rfl k) ?_
    show Goes p e below (s₁.setTop (mkF m 32 #[.val (.ref a1), .val (.int (0 : Int32)), .val (.int (20 : Int32)), .val (.int p4), .val (.int (10 : Int32)), .val (.int (19 : Int32)), .val (.int (14 : Int32)), .val (.int (8287 : Int32))] [(.int (8287 : Int32))])) _
    refine Goes.via (fun t k => XS.iloadN X0.here hx rfl (hb hby d3_32) rfl k) ?_
    show Goes p e below (s₁.setTop (mkF m 33 #[.val (.ref a1), .val (.int (0 : Int32)), .val (.int (20 : Int32)), .val (.int p4), .val (.int (10 : Int32)), .val (.int (19 : Int32)), .val (.int (14 : Int32)), .val (.int (8287 : Int32))] [(.int p4), (.int (8287 : Int32))])) _
    by_cases hc33_4 : (8287 : Int32) < p4
    · refine Goes.via (fun t k => XS.icmpNo X0.here hx rfl (hb hby d3_33) rfl (tlt hc33_4).2.1 k) ?_
      show Goes p e below (s₁.setTop (mkF m 36 #[.val (.ref a1), .val (.int (0 : Int32)), .val (.int (20 : Int32)), .val (.int p4), .val (.int (10 : Int32)), .val (.int (19 : Int32)), .val (.int (14 : Int32)), .val (.int (8287 : Int32))] [])) _
      refine Goes.via (fun t k => XS.iload X0.here hx rfl (hb hby d3_36) rfl k) ?_
      show Goes p e below (s₁.setTop (mkF m 38 #[.val (.ref a1), .val (.int (0 : Int32)), .val (.int (20 : Int32)), .val (.int p4), .val (.int (10 : Int32)), .val (.int (19 : Int32)), .val (.int (14 : Int32)), .val (.int (8287 : Int32))] [(.int (14 : Int32))])) _
      refine Goes.via (fun t k => XS.iconst X0.here hx rfl (hb hby d3_38) k) ?_
      show Goes p e below (s₁.setTop (mkF m 39 #[.val (.ref a1), .val (.int (0 : Int32)), .val (.int (20 : Int32)), .val (.int p4), .val (.int (10 : Int32)), .val (.int (19 : Int32)), .val (.int (14 : Int32)), .val (.int (8287 : Int32))] [(.int (1 : Int32)), (.int (14 : Int32))])) _
      refine Goes.via (fun t k => XS.iadd X0.here hx rfl (hb hby d3_39) rfl k) ?_
      show Goes p e below (s₁.setTop (mkF m 40 #[.val (.ref a1), .val (.int (0 : Int32)), .val (.int (20 : Int32)), .val (.int p4), .val (.int (10 : Int32)), .val (.int (19 : Int32)), .val (.int (14 : Int32)), .val (.int (8287 : Int32))] [(.int (15 : Int32))])) _
      refine Goes.via (fun t k => XS.istore X0.here hx rfl (hb hby d3_40) rfl (l' := #[.val (.ref a1), .val (.int (0 : Int32)), .val (.int (20 : Int32)), .val (.int p4), .val (.int (15 : Int32)), .val (.int (19 : Int32)), .val (.int (14 : Int32)), .val (.int (8287 : Int32))]) rfl k) ?_
      show Goes p e below (s₁.setTop (mkF m 42 #[.val (.ref a1), .val (.int (0 : Int32)), .val (.int (20 : Int32)), .val (.int p4), .val (.int (15 : Int32)), .val (.int (19 : Int32)), .val (.int (14 : Int32)), .val (.int (8287 : Int32))] [])) _
      refine Goes.via (fun t k => XS.goto X0.here hx rfl (pc0 := 42) (pc' := 63) rfl (hb hby d3_42) (by decide) (by decide) k) ?_
      show Goes p e below (s₁.setTop (mkF m 63 #[.val (.ref a1), .val (.int (0 : Int32)), .val (.int (20 : Int32)), .val (.int p4), .val (.int (15 : Int32)), .val (.int (19 : Int32)), .val (.int (14 : Int32)), .val (.int (8287 : Int32))] [])) _
      refine Goes.via (fun t k => XS.goto X0.here hx rfl (pc0 := 63) (pc' := 8) rfl (hb hby d3_63) (by decide) (by decide) k) ?_
      show Goes p e below (s₁.setTop (mkF m 8 #[.val (.ref a1), .val (.int (0 : Int32)), .val (.int (20 : Int32)), .val (.int p4), .val (.int (15 : Int32)), .val (.int (19 : Int32)), .val (.int (14 : Int32)), .val (.int (8287 : Int32))] [])) _
      refine Goes.via (fun t k => XS.iload X0.here hx rfl (hb hby d3_8) rfl k) ?_
      show Goes p e below (s₁.setTop (mkF m 10 #[.val (.ref a1), .val (.int (0 : Int32)), .val (.int (20 : Int32)), .val (.int p4), .val (.int (15 : Int32)), .val (.int (19 : Int32)), .val (.int (14 : Int32)), .val (.int (8287 : Int32))] [(.int (15 : Int32))])) _
      refine Goes.via (fun t k => XS.iload X0.here hx rfl (hb hby d3_10) rfl k) ?_
      show Goes p e below (s₁.setTop (mkF m 12 #[.val (.ref a1), .val (.int (0 : Int32)), .val (.int (20 : Int32)), .val (.int p4), .val (.int (15 : Int32)), .val (.int (19 : Int32)), .val (.int (14 : Int32)), .val (.int (8287 : Int32))] [(.int (19 : Int32)), (.int (15 : Int32))])) _
      refine Goes.via (fun t k => XS.icmpNo X0.here hx rfl (hb hby d3_12) rfl (flt (show ¬ ((19 : Int32) < (15 : Int32)) from (by decide))).2.2.1 k) ?_
      show Goes p e below (s₁.setTop (mkF m 15 #[.val (.ref a1), .val (.int (0 : Int32)), .val (.int (20 : Int32)), .val (.int p4), .val (.int (15 : Int32)), .val (.int (19 : Int32)), .val (.int (14 : Int32)), .val (.int (8287 : Int32))] [])) _
      refine Goes.via (fun t k => XS.iload X0.here hx rfl (hb hby d3_15) rfl k) ?_
      show Goes p e below (s₁.setTop (mkF m 17 #[.val (.ref a1), .val (.int (0 : Int32)), .val (.int (20 : Int32)), .val (.int p4), .val (.int (15 : Int32)), .val (.int (19 : Int32)), .val (.int (14 : Int32)), .val (.int (8287 : Int32))] [(.int (15 : Int32))])) _
      refine Goes.via (fun t k => XS.iload X0.here hx rfl (hb hby d3_17) rfl k) ?_
      show Goes p e below (s₁.setTop (mkF m 19 #[.val (.ref a1), .val (.int (0 : Int32)), .val (.int (20 : Int32)), .val (.int p4), .val (.int (15 : Int32)), .val (.int (19 : Int32)), .val (.int (14 : Int32)), .val (.int (8287 : Int32))] [(.int (19 : Int32)), (.int (15 : Int32))])) _
      refine Goes.via (fun t k => XS.iadd X0.here hx rfl (hb hby d3_19) rfl k) ?_
      show Goes p e below (s₁.setTop (mkF m 20 #[.val (.ref a1), .val (.int (0 : Int32)), .val (.int (20 : Int32)), .val (.int p4), .val (.int (15 : Int32)), .val (.int (19 : Int32)), .val (.int (14 : Int32)), .val (.int (8287 : Int32))] [(.int (34 : Int32))])) _
      refine Goes.via (fun t k => XS.iconst X0.here hx rfl (hb hby d3_20) k) ?_
      show Goes p e below (s₁.setTop (mkF m 21 #[.val (.ref a1), .val (.int (0 : Int32)), .val (.int (20 : Int32)), .val (.int p4), .val (.int (15 : Int32)), .val (.int (19 : Int32)), .val (.int (14 : Int32)), .val (.int (8287 : Int32))] [(.int (1 : Int32)), (.int (34 : Int32))])) _
      refine Goes.via (fun t k => XS.iushr X0.here hx rfl (hb hby d3_21) rfl k) ?_
      show Goes p e below (s₁.setTop (mkF m 22 #[.val (.ref a1), .val (.int (0 : Int32)), .val (.int (20 : Int32)), .val (.int p4), .val (.int (15 : Int32)), .val (.int (19 : Int32)), .val (.int (14 : Int32)), .val (.int (8287 : Int32))] [(.int (17 : Int32))])) _
      refine Goes.via (fun t k => XS.istore X0.here hx rfl (hb hby d3_22) rfl (l' := #[.val (.ref a1), .val (.int (0 : Int32)), .val (.int (20 : Int32)), .val (.int p4), .val (.int (15 : Int32)), .val (.int (19 : Int32)), .val (.int (17 : Int32)), .val (.int (8287 : Int32))]) rfl k) ?_
      show Goes p e below (s₁.setTop (mkF m 24 #[.val (.ref a1), .val (.int (0 : Int32)), .val (.int (20 : Int32)), .val (.int p4), .val (.int (15 : Int32)), .val (.int (19 : Int32)), .val (.int (17 : Int32)), .val (.int (8287 : Int32))] [])) _
      refine Goes.via (fun t k => XS.aloadN X0.here hx rfl (hb hby d3_24) rfl rfl k) ?_
      show Goes p e below (s₁.setTop (mkF m 25 #[.val (.ref a1), .val (.int (0 : Int32)), .val (.int (20 : Int32)), .val (.int p4), .val (.int (15 : Int32)), .val (.int (19 : Int32)), .val (.int (17 : Int32)), .val (.int (8287 : Int32))] [(.ref a1)])) _
      refine Goes.via (fun t k => XS.iload X0.here hx rfl (hb hby d3_25) rfl k) ?_
      show Goes p e below (s₁.setTop (mkF m 27 #[.val (.ref a1), .val (.int (0 : Int32)), .val (.int (20 : Int32)), .val (.int p4), .val (.int (15 : Int32)), .val (.int (19 : Int32)), .val (.int (17 : Int32)), .val (.int (8287 : Int32))] [(.int (17 : Int32)), (.ref a1)])) _
      obtain ⟨cl5, Ar5, qa5, Sa5, Na5, Ha5, Ga5⟩ := id V1
      have hin5 : ¬ ((17 : Int32) < 0 ∨ cl5.slots.size ≤ ((17 : Int32)).toNatClampNeg) := inb_of Sa5 ⟨by decide, by decide⟩
      have hat5 : cl5.slots[((17 : Int32)).toNatClampNeg]? = some (.int (12288 : Int32)) := Ha5.at hin5 rfl
      refine Goes.via (fun t k => X0.iaload hx (j := (17 : Int32)) (v := (.int (12288 : Int32))) (by rw [e0]; exact Ar5.1) (State.isArrayOf_alike hZ.alike Ar5.2.1) Ar5.2.2 hin5 hat5 (g := (mkF m 27 #[.val (.ref a1), .val (.int (0 : Int32)), .val (.int (20 : Int32)), .val (.int p4), .val (.int (15 : Int32)), .val (.int (19 : Int32)), .val (.int (17 : Int32)), .val (.int (8287 : Int32))] [(.int (17 : Int32)), (.ref a1)])) rfl rfl (hb hby d3_27) _ k) ?_
      show Goes p e below (s₁.setTop (mkF m 28 #[.val (.ref a1), .val (.int (0 : Int32)), .val (.int (20 : Int32)), .val (.int p4), .val (.int (15 : Int32)), .val (.int (19 : Int32)), .val (.int (17 : Int32)), .val (.int (8287 : Int32))] [(.int (12288 : Int32))])) _
      refine Goes.via (fun t k => XS.istore X0.here hx rfl (hb hby d3_28) rfl (l' := #[.val (.ref a1), .val (.int (0 : Int32)), .val (.int (20 : Int32)), .val (.int p4), .val (.int (15 : Int32)), .val (.int (19 : Int32)), .val (.int (17 : Int32)), .val (.int (12288 : Int32))]) rfl k) ?_
      show Goes p e below (s₁.setTop (mkF m 30 #[.val (.ref a1), .val (.int (0 : Int32)), .val (.int (20 : Int32)), .val (.int p4), .val (.int (15 : Int32)), .val (.int (19 : Int32)), .val (.int (17 : Int32)), .val (.int (12288 : Int32))] [])) _
      refine Goes.via (fun t k => XS.iload X0.here hx rfl (hb hby d3_30) rfl k) ?_
      show Goes p e below (s₁.setTop (mkF m 32 #[.val (.ref a1), .val (.int (0 : Int32)), .val (.int (20 : Int32)), .val (.int p4), .val (.int (15 : Int32)), .val (.int (19 : Int32)), .val (.int (17 : Int32)), .val (.int (12288 : Int32))] [(.int (12288 : Int32))])) _
      refine Goes.via (fun t k => XS.iloadN X0.here hx rfl (hb hby d3_32) rfl k) ?_
      show Goes p e below (s₁.setTop (mkF m 33 #[.val (.ref a1), .val (.int (0 : Int32)), .val (.int (20 : Int32)), .val (.int p4), .val (.int (15 : Int32)), .val (.int (19 : Int32)), .val (.int (17 : Int32)), .val (.int (12288 : Int32))] [(.int p4), (.int (12288 : Int32))])) _
      by_cases hc33_6 : (12288 : Int32) < p4
      · refine Goes.via (fun t k => XS.icmpNo X0.here hx rfl (hb hby d3_33) rfl (tlt hc33_6).2.1 k) ?_
        show Goes p e below (s₁.setTop (mkF m 36 #[.val (.ref a1), .val (.int (0 : Int32)), .val (.int (20 : Int32)), .val (.int p4), .val (.int (15 : Int32)), .val (.int (19 : Int32)), .val (.int (17 : Int32)), .val (.int (12288 : Int32))] [])) _
        refine Goes.via (fun t k => XS.iload X0.here hx rfl (hb hby d3_36) rfl k) ?_
        show Goes p e below (s₁.setTop (mkF m 38 #[.val (.ref a1), .val (.int (0 : Int32)), .val (.int (20 : Int32)), .val (.int p4), .val (.int (15 : Int32)), .val (.int (19 : Int32)), .val (.int (17 : Int32)), .val (.int (12288 : Int32))] [(.int (17 : Int32))])) _
        refine Goes.via (fun t k => XS.iconst X0.here hx rfl (hb hby d3_38) k) ?_
        show Goes p e below (s₁.setTop (mkF m 39 #[.val (.ref a1), .val (.int (0 : Int32)), .val (.int (20 : Int32)), .val (.int p4), .val (.int (15 : Int32)), .val (.int (19 : Int32)), .val (.int (17 : Int32)), .val (.int (12288 : Int32))] [(.int (1 : Int32)), (.int (17 : Int32))])) _
        refine Goes.via (fun t k => XS.iadd X0.here hx rfl (hb hby d3_39) rfl k) ?_
        show Goes p e below (s₁.setTop (mkF m 40 #[.val (.ref a1), .val (.int (0 : Int32)), .val (.int (20 : Int32)), .val (.int p4), .val (.int (15 : Int32)), .val (.int (19 : Int32)), .val (.int (17 : Int32)), .val (.int (12288 : Int32))] [(.int (18 : Int32))])) _
        refine Goes.via (fun t k => XS.istore X0.here hx rfl (hb hby d3_40) rfl (l' := #[.val (.ref a1), .val (.int (0 : Int32)), .val (.int (20 : Int32)), .val (.int p4), .val (.int (18 : Int32)), .val (.int (19 : Int32)), .val (.int (17 : Int32)), .val (.int (12288 : Int32))]) rfl k) ?_
        show Goes p e below (s₁.setTop (mkF m 42 #[.val (.ref a1), .val (.int (0 : Int32)), .val (.int (20 : Int32)), .val (.int p4), .val (.int (18 : Int32)), .val (.int (19 : Int32)), .val (.int (17 : Int32)), .val (.int (12288 : Int32))] [])) _
        refine Goes.via (fun t k => XS.goto X0.here hx rfl (pc0 := 42) (pc' := 63) rfl (hb hby d3_42) (by decide) (by decide) k) ?_
        show Goes p e below (s₁.setTop (mkF m 63 #[.val (.ref a1), .val (.int (0 : Int32)), .val (.int (20 : Int32)), .val (.int p4), .val (.int (18 : Int32)), .val (.int (19 : Int32)), .val (.int (17 : Int32)), .val (.int (12288 : Int32))] [])) _
        refine Goes.via (fun t k => XS.goto X0.here hx rfl (pc0 := 63) (pc' := 8) rfl (hb hby d3_63) (by decide) (by decide) k) ?_
        show Goes p e below (s₁.setTop (mkF m 8 #[.val (.ref a1), .val (.int (0 : Int32)), .val (.int (20 : Int32)), .val (.int p4), .val (.int (18 : Int32)), .val (.int (19 : Int32)), .val (.int (17 : Int32)), .val (.int (12288 : Int32))] [])) _
        refine Goes.via (fun t k => XS.iload X0.here hx rfl (hb hby d3_8) rfl k) ?_
        show Goes p e below (s₁.setTop (mkF m 10 #[.val (.ref a1), .val (.int (0 : Int32)), .val (.int (20 : Int32)), .val (.int p4), .val (.int (18 : Int32)), .val (.int (19 : Int32)), .val (.int (17 : Int32)), .val (.int (12288 : Int32))] [(.int (18 : Int32))])) _
        refine Goes.via (fun t k => XS.iload X0.here hx rfl (hb hby d3_10) rfl k) ?_
        show Goes p e below (s₁.setTop (mkF m 12 #[.val (.ref a1), .val (.int (0 : Int32)), .val (.int (20 : Int32)), .val (.int p4), .val (.int (18 : Int32)), .val (.int (19 : Int32)), .val (.int (17 : Int32)), .val (.int (12288 : Int32))] [(.int (19 : Int32)), (.int (18 : Int32))])) _
        refine Goes.via (fun t k => XS.icmpNo X0.here hx rfl (hb hby d3_12) rfl (flt (show ¬ ((19 : Int32) < (18 : Int32)) from (by decide))).2.2.1 k) ?_
        show Goes p e below (s₁.setTop (mkF m 15 #[.val (.ref a1), .val (.int (0 : Int32)), .val (.int (20 : Int32)), .val (.int p4), .val (.int (18 : Int32)), .val (.int (19 : Int32)), .val (.int (17 : Int32)), .val (.int (12288 : Int32))] [])) _
        refine Goes.via (fun t k => XS.iload X0.here hx rfl (hb hby d3_15) rfl k) ?_
        show Goes p e below (s₁.setTop (mkF m 17 #[.val (.ref a1), .val (.int (0 : Int32)), .val (.int (20 : Int32)), .val (.int p4), .val (.int (18 : Int32)), .val (.int (19 : Int32)), .val (.int (17 : Int32)), .val (.int (12288 : Int32))] [(.int (18 : Int32))])) _
        refine Goes.via (fun t k => XS.iload X0.here hx rfl (hb hby d3_17) rfl k) ?_
        show Goes p e below (s₁.setTop (mkF m 19 #[.val (.ref a1), .val (.int (0 : Int32)), .val (.int (20 : Int32)), .val (.int p4), .val (.int (18 : Int32)), .val (.int (19 : Int32)), .val (.int (17 : Int32)), .val (.int (12288 : Int32))] [(.int (19 : Int32)), (.int (18 : Int32))])) _
        refine Goes.via (fun t k => XS.iadd X0.here hx rfl (hb hby d3_19) rfl k) ?_
        show Goes p e below (s₁.setTop (mkF m 20 #[.val (.ref a1), .val (.int (0 : Int32)), .val (.int (20 : Int32)), .val (.int p4), .val (.int (18 : Int32)), .val (.int (19 : Int32)), .val (.int (17 : Int32)), .val (.int (12288 : Int32))] [(.int (37 : Int32))])) _
        refine Goes.via (fun t k => XS.iconst X0.here hx rfl (hb hby d3_20) k) ?_
        show Goes p e below (s₁.setTop (mkF m 21 #[.val (.ref a1), .val (.int (0 : Int32)), .val (.int (20 : Int32)), .val (.int p4), .val (.int (18 : Int32)), .val (.int (19 : Int32)), .val (.int (17 : Int32)), .val (.int (12288 : Int32))] [(.int (1 : Int32)), (.int (37 : Int32))])) _
        refine Goes.via (fun t k => XS.iushr X0.here hx rfl (hb hby d3_21) rfl k) ?_
        show Goes p e below (s₁.setTop (mkF m 22 #[.val (.ref a1), .val (.int (0 : Int32)), .val (.int (20 : Int32)), .val (.int p4), .val (.int (18 : Int32)), .val (.int (19 : Int32)), .val (.int (17 : Int32)), .val (.int (12288 : Int32))] [(.int (18 : Int32))])) _
        refine Goes.via (fun t k => XS.istore X0.here hx rfl (hb hby d3_22) rfl (l' := #[.val (.ref a1), .val (.int (0 : Int32)), .val (.int (20 : Int32)), .val (.int p4), .val (.int (18 : Int32)), .val (.int (19 : Int32)), .val (.int (18 : Int32)), .val (.int (12288 : Int32))]) rfl k) ?_
        show Goes p e below (s₁.setTop (mkF m 24 #[.val (.ref a1), .val (.int (0 : Int32)), .val (.int (20 : Int32)), .val (.int p4), .val (.int (18 : Int32)), .val (.int (19 : Int32)), .val (.int (18 : Int32)), .val (.int (12288 : Int32))] [])) _
        refine Goes.via (fun t k => XS.aloadN X0.here hx rfl (hb hby d3_24) rfl rfl k) ?_
        show Goes p e below (s₁.setTop (mkF m 25 #[.val (.ref a1), .val (.int (0 : Int32)), .val (.int (20 : Int32)), .val (.int p4), .val (.int (18 : Int32)), .val (.int (19 : Int32)), .val (.int (18 : Int32)), .val (.int (12288 : Int32))] [(.ref a1)])) _
        refine Goes.via (fun t k => XS.iload X0.here hx rfl (hb hby d3_25) rfl k) ?_
        show Goes p e below (s₁.setTop (mkF m 27 #[.val (.ref a1), .val (.int (0 : Int32)), .val (.int (20 : Int32)), .val (.int p4), .val (.int (18 : Int32)), .val (.int (19 : Int32)), .val (.int (18 : Int32)), .val (.int (12288 : Int32))] [(.int (18 : Int32)), (.ref a1)])) _
        obtain ⟨cl7, Ar7, qa7, Sa7, Na7, Ha7, Ga7⟩ := id V1
        have hin7 : ¬ ((18 : Int32) < 0 ∨ cl7.slots.size ≤ ((18 : Int32)).toNatClampNeg) := inb_of Sa7 ⟨by decide, by decide⟩
        have hat7 : cl7.slots[((18 : Int32)).toNatClampNeg]? = some (.int (65279 : Int32)) := Ha7.at hin7 rfl
        refine Goes.via (fun t k => X0.iaload hx (j := (18 : Int32)) (v := (.int (65279 : Int32))) (by rw [e0]; exact Ar7.1) (State.isArrayOf_alike hZ.alike Ar7.2.1) Ar7.2.2 hin7 hat7 (g := (mkF m 27 #[.val (.ref a1), .val (.int (0 : Int32)), .val (.int (20 : Int32)), .val (.int p4), .val (.int (18 : Int32)), .val (.int (19 : Int32)), .val (.int (18 : Int32)), .val (.int (12288 : Int32))] [(.int (18 : Int32)), (.ref a1)])) rfl rfl (hb hby d3_27) _ k) ?_
        show Goes p e below (s₁.setTop (mkF m 28 #[.val (.ref a1), .val (.int (0 : Int32)), .val (.int (20 : Int32)), .val (.int p4), .val (.int (18 : Int32)), .val (.int (19 : Int32)), .val (.int (18 : Int32)), .val (.int (12288 : Int32))] [(.int (65279 : Int32))])) _
        refine Goes.via (fun t k => XS.istore X0.here hx rfl (hb hby d3_28) rfl (l' := #[.val (.ref a1), .val (.int (0 : Int32)), .val (.int (20 : Int32)), .val (.int p4), .val (.int (18 : Int32)), .val (.int (19 : Int32)), .val (.int (18 : Int32)), .val (.int (65279 : Int32))]) rfl k) ?_
        show Goes p e below (s₁.setTop (mkF m 30 #[.val (.ref a1), .val (.int (0 : Int32)), .val (.int (20 : Int32)), .val (.int p4), .val (.int (18 : Int32)), .val (.int (19 : Int32)), .val (.int (18 : Int32)), .val (.int (65279 : Int32))] [])) _
        refine Goes.via (fun t k => XS.iload X0.here hx rfl (hb hby d3_30) rfl k) ?_
        show Goes p e below (s₁.setTop (mkF m 32 #[.val (.ref a1), .val (.int (0 : Int32)), .val (.int (20 : Int32)), .val (.int p4), .val (.int (18 : Int32)), .val (.int (19 : Int32)), .val (.int (18 : Int32)), .val (.int (65279 : Int32))] [(.int (65279 : Int32))])) _
        refine Goes.via (fun t k => XS.iloadN X0.here hx rfl (hb hby d3_32) rfl k) ?_
        show Goes p e below (s₁.setTop (mkF m 33 #[.val (.ref a1), .val (.int (0 : Int32)), .val (.int (20 : Int32)), .val (.int p4), .val (.int (18 : Int32)), .val (.int (19 : Int32)), .val (.int (18 : Int32)), .val (.int (65279 : Int32))] [(.int p4), (.int (65279 : Int32))])) _
        by_cases hc33_8 : (65279 : Int32) < p4
        · refine Goes.via (fun t k => XS.icmpNo X0.here hx rfl (hb hby d3_33) rfl (tlt hc33_8).2.1 k) ?_
          show Goes p e below (s₁.setTop (mkF m 36 #[.val (.ref a1), .val (.int (0 : Int32)), .val (.int (20 : Int32)), .val (.int p4), .val (.int (18 : Int32)), .val (.int (19 : Int32)), .val (.int (18 : Int32)), .val (.int (65279 : Int32))] [])) _
          refine Goes.via (fun t k => XS.iload X0.here hx rfl (hb hby d3_36) rfl k) ?_
          show Goes p e below (s₁.setTop (mkF m 38 #[.val (.ref a1), .val (.int (0 : Int32)), .val (.int (20 : Int32)), .val (.int p4), .val (.int (18 : Int32)), .val (.int (19 : Int32)), .val (.int (18 : Int32)), .val (.int (65279 : Int32))] [(.int (18 : Int32))])) _
          refine Goes.via (fun t k => XS.iconst X0.here hx rfl (hb hby d3_38) k) ?_
          show Goes p e below (s₁.setTop (mkF m 39 #[.val (.ref a1), .val (.int (0 : Int32)), .val (.int (20 : Int32)), .val (.int p4), .val (.int (18 : Int32)), .val (.int (19 : Int32)), .val (.int (18 : Int32)), .val (.int (65279 : Int32))] [(.int (1 : Int32)), (.int (18 : Int32))])) _
          refine Goes.via (fun t k => XS.iadd X0.here hx rfl (hb hby d3_39) rfl k) ?_
          show Goes p e below (s₁.setTop (mkF m 40 #[.val (.ref a1), .val (.int (0 : Int32)), .val (.int (20 : Int32)), .val (.int p4), .val (.int (18 : Int32)), .val (.int (19 : Int32)), .val (.int (18 : Int32)), .val (.int (65279 : Int32))] [(.int (19 : Int32))])) _
          refine Goes.via (fun t k => XS.istore X0.here hx rfl (hb hby d3_40) rfl (l' := #[.val (.ref a1), .val (.int (0 : Int32)), .val (.int (20 : Int32)), .val (.int p4), .val (.int (19 : Int32)), .val (.int (19 : Int32)), .val (.int (18 : Int32)), .val (.int (65279 : Int32))]) rfl k) ?_
          show Goes p e below (s₁.setTop (mkF m 42 #[.val (.ref a1), .val (.int (0 : Int32)), .val (.int (20 : Int32)), .val (.int p4), .val (.int (19 : Int32)), .val (.int (19 : Int32)), .val (.int (18 : Int32)), .val (.int (65279 : Int32))] [])) _
          refine Goes.via (fun t k => XS.goto X0.here hx rfl (pc0 := 42) (pc' := 63) rfl (hb hby d3_42) (by decide) (by decide) k) ?_
          show Goes p e below (s₁.setTop (mkF m 63 #[.val (.ref a1), .val (.int (0 : Int32)), .val (.int (20 : Int32)), .val (.int p4), .val (.int (19 : Int32)), .val (.int (19 : Int32)), .val (.int (18 : Int32)), .val (.int (65279 : Int32))] [])) _
          refine Goes.via (fun t k => XS.goto X0.here hx rfl (pc0 := 63) (pc' := 8) rfl (hb hby d3_63) (by decide) (by decide) k) ?_
          show Goes p e below (s₁.setTop (mkF m 8 #[.val (.ref a1), .val (.int (0 : Int32)), .val (.int (20 : Int32)), .val (.int p4), .val (.int (19 : Int32)), .val (.int (19 : Int32)), .val (.int (18 : Int32)), .val (.int (65279 : Int32))] [])) _
          refine Goes.via (fun t k => XS.iload X0.here hx rfl (hb hby d3_8) rfl k) ?_
          show Goes p e below (s₁.setTop (mkF m 10 #[.val (.ref a1), .val (.int (0 : Int32)), .val (.int (20 : Int32)), .val (.int p4), .val (.int (19 : Int32)), .val (.int (19 : Int32)), .val (.int (18 : Int32)), .val (.int (65279 : Int32))] [(.int (19 : Int32))])) _
          refine Goes.via (fun t k => XS.iload X0.here hx rfl (hb hby d3_10) rfl k) ?_
          show Goes p e below (s₁.setTop (mkF m 12 #[.val (.ref a1), .val (.int (0 : Int32)), .val (.int (20 : Int32)), .val (.int p4), .val (.int (19 : Int32)), .val (.int (19 : Int32)), .val (.int (18 : Int32)), .val (.int (65279 : Int32))] [(.int (19 : Int32)), (.int (19 : Int32))])) _
          refine Goes.via (fun t k => XS.icmpNo X0.here hx rfl (hb hby d3_12) rfl (flt (show ¬ ((19 : Int32) < (19 : Int32)) from (by decide))).2.2.1 k) ?_
          show Goes p e below (s₁.setTop (mkF m 15 #[.val (.ref a1), .val (.int (0 : Int32)), .val (.int (20 : Int32)), .val (.int p4), .val (.int (19 : Int32)), .val (.int (19 : Int32)), .val (.int (18 : Int32)), .val (.int (65279 : Int32))] [])) _
          refine Goes.via (fun t k => XS.iload X0.here hx rfl (hb hby d3_15) rfl k) ?_
          show Goes p e below (s₁.setTop (mkF m 17 #[.val (.ref a1), .val (.int (0 : Int32)), .val (.int (20 : Int32)), .val (.int p4), .val (.int (19 : Int32)), .val (.int (19 : Int32)), .val (.int (18 : Int32)), .val (.int (65279 : Int32))] [(.int (19 : Int32))])) _
          refine Goes.via (fun t k => XS.iload X0.here hx rfl (hb hby d3_17) rfl k) ?_
          show Goes p e below (s₁.setTop (mkF m 19 #[.val (.ref a1), .val (.int (0 : Int32)), .val (.int (20 : Int32)), .val (.int p4), .val (.int (19 : Int32)), .val (.int (19 : Int32)), .val (.int (18 : Int32)), .val (.int (65279 : Int32))] [(.int (19 : Int32)), (.int (19 : Int32))])) _
          refine Goes.via (fun t k => XS.iadd X0.here hx rfl (hb hby d3_19) rfl k) ?_
          show Goes p e below (s₁.setTop (mkF m 20 #[.val (.ref a1), .val (.int (0 : Int32)), .val (.int (20 : Int32)), .val (.int p4), .val (.int (19 : Int32)), .val (.int (19 : Int32)), .val (.int (18 : Int32)), .val (.int (65279 : Int32))] [(.int (38 : Int32))])) _
          refine Goes.via (fun t k => XS.iconst X0.here hx rfl (hb hby d3_20) k) ?_
          show Goes p e below (s₁.setTop (mkF m 21 #[.val (.ref a1), .val (.int (0 : Int32)), .val (.int (20 : Int32)), .val (.int p4), .val (.int (19 : Int32)), .val (.int (19 : Int32)), .val (.int (18 : Int32)), .val (.int (65279 : Int32))] [(.int (1 : Int32)), (.int (38 : Int32))])) _
          refine Goes.via (fun t k => XS.iushr X0.here hx rfl (hb hby d3_21) rfl k) ?_
          show Goes p e below (s₁.setTop (mkF m 22 #[.val (.ref a1), .val (.int (0 : Int32)), .val (.int (20 : Int32)), .val (.int p4), .val (.int (19 : Int32)), .val (.int (19 : Int32)), .val (.int (18 : Int32)), .val (.int (65279 : Int32))] [(.int (19 : Int32))])) _
          refine Goes.via (fun t k => XS.istore X0.here hx rfl (hb hby d3_22) rfl (l' := #[.val (.ref a1), .val (.int (0 : Int32)), .val (.int (20 : Int32)), .val (.int p4), .val (.int (19 : Int32)), .val (.int (19 : Int32)), .val (.int (19 : Int32)), .val (.int (65279 : Int32))]) rfl k) ?_
          show Goes p e below (s₁.setTop (mkF m 24 #[.val (.ref a1), .val (.int (0 : Int32)), .val (.int (20 : Int32)), .val (.int p4), .val (.int (19 : Int32)), .val (.int (19 : Int32)), .val (.int (19 : Int32)), .val (.int (65279 : Int32))] [])) _
          refine Goes.via (fun t k => XS.aloadN X0.here hx rfl (hb hby d3_24) rfl rfl k) ?_
          show Goes p e below (s₁.setTop (mkF m 25 #[.val (.ref a1), .val (.int (0 : Int32)), .val (.int (20 : Int32)), .val (.int p4), .val (.int (19 : Int32)), .val (.int (19 : Int32)), .val (.int (19 : Int32)), .val (.int (65279 : Int32))] [(.ref a1)])) _
          refine Goes.via (fun t k => XS.iload X0.here hx rfl (hb hby d3_25) rfl k) ?_
          show Goes p e below (s₁.setTop (mkF m 27 #[.val (.ref a1), .val (.int (0 : Int32)), .val (.int (20 : Int32)), .val (.int p4), .val (.int (19 : Int32)), .val (.int (19 : Int32)), .val (.int (19 : Int32)), .val (.int (65279 : Int32))] [(.int (19 : Int32)), (.ref a1)])) _
          obtain ⟨cl9, Ar9, qa9, Sa9, Na9, Ha9, Ga9⟩ := id V1
          have hin9 : ¬ ((19 : Int32) < 0 ∨ cl9.slots.size ≤ ((19 : Int32)).toNatClampNeg) := inb_of Sa9 ⟨by decide, by decide⟩
          have hat9 : cl9.slots[((19 : Int32)).toNatClampNeg]? = some (.int (65279 : Int32)) := Ha9.at hin9 rfl
          refine Goes.via (fun t k => X0.iaload hx (j := (19 : Int32)) (v := (.int (65279 : Int32))) (by rw [e0]; exact Ar9.1) (State.isArrayOf_alike hZ.alike Ar9.2.1) Ar9.2.2 hin9 hat9 (g := (mkF m 27 #[.val (.ref a1), .val (.int (0 : Int32)), .val (.int (20 : Int32)), .val (.int p4), .val (.int (19 : Int32)), .val (.int (19 : Int32)), .val (.int (19 : Int32)), .val (.int (65279 : Int32))] [(.int (19 : Int32)), (.ref a1)])) rfl rfl (hb hby d3_27) _ k) ?_
          show Goes p e below (s₁.setTop (mkF m 28 #[.val (.ref a1), .val (.int (0 : Int32)), .val (.int (20 : Int32)), .val (.int p4), .val (.int (19 : Int32)), .val (.int (19 : Int32)), .val (.int (19 : Int32)), .val (.int (65279 : Int32))] [(.int (65279 : Int32))])) _
          refine Goes.via (fun t k => XS.istore X0.here hx rfl (hb hby d3_28) rfl (l' := #[.val (.ref a1), .val (.int (0 : Int32)), .val (.int (20 : Int32)), .val (.int p4), .val (.int (19 : Int32)), .val (.int (19 : Int32)), .val (.int (19 : Int32)), .val (.int (65279 : Int32))]) rfl k) ?_
          show Goes p e below (s₁.setTop (mkF m 30 #[.val (.ref a1), .val (.int (0 : Int32)), .val (.int (20 : Int32)), .val (.int p4), .val (.int (19 : Int32)), .val (.int (19 : Int32)), .val (.int (19 : Int32)), .val (.int (65279 : Int32))] [])) _
          refine Goes.via (fun t k => XS.iload X0.here hx rfl (hb hby d3_30) rfl k) ?_
          show Goes p e below (s₁.setTop (mkF m 32 #[.val (.ref a1), .val (.int (0 : Int32)), .val (.int (20 : Int32)), .val (.int p4), .val (.int (19 : Int32)), .val (.int (19 : Int32)), .val (.int (19 : Int32)), .val (.int (65279 : Int32))] [(.int (65279 : Int32))])) _
          refine Goes.via (fun t k => XS.iloadN X0.here hx rfl (hb hby d3_32) rfl k) ?_
          show Goes p e below (s₁.setTop (mkF m 33 #[.val (.ref a1), .val (.int (0 : Int32)), .val (.int (20 : Int32)), .val (.int p4), .val (.int (19 : Int32)), .val (.int (19 : Int32)), .val (.int (19 : Int32)), .val (.int (65279 : Int32))] [(.int p4), (.int (65279 : Int32))])) _
          refine Goes.via (fun t k => XS.icmpNo X0.here hx rfl (hb hby d3_33) rfl (tlt hc33_8).2.1 k) ?_
          show Goes p e below (s₁.setTop (mkF m 36 #[.val (.ref a1), .val (.int (0 : Int32)), .val (.int (20 : Int32)), .val (.int p4), .val (.int (19 : Int32)), .val (.int (19 : Int32)), .val (.int (19 : Int32)), .val (.int (65279 : Int32))] [])) _
          refine Goes.via (fun t k => XS.iload X0.here hx rfl (hb hby d3_36) rfl k) ?_
          show Goes p e below (s₁.setTop (mkF m 38 #[.val (.ref a1), .val (.int (0 : Int32)), .val (.int (20 : Int32)), .val (.int p4), .val (.int (19 : Int32)), .val (.int (19 : Int32)), .val (.int (19 : Int32)), .val (.int (65279 : Int32))] [(.int (19 : Int32))])) _
          refine Goes.via (fun t k => XS.iconst X0.here hx rfl (hb hby d3_38) k) ?_
          show Goes p e below (s₁.setTop (mkF m 39 #[.val (.ref a1), .val (.int (0 : Int32)), .val (.int (20 : Int32)), .val (.int p4), .val (.int (19 : Int32)), .val (.int (19 : Int32)), .val (.int (19 : Int32)), .val (.int (65279 : Int32))] [(.int (1 : Int32)), (.int (19 : Int32))])) _
          refine Goes.via (fun t k => XS.iadd X0.here hx rfl (hb hby d3_39) rfl k) ?_
          show Goes p e below (s₁.setTop (mkF m 40 #[.val (.ref a1), .val (.int (0 : Int32)), .val (.int (20 : Int32)), .val (.int p4), .val (.int (19 : Int32)), .val (.int (19 : Int32)), .val (.int (19 : Int32)), .val (.int (65279 : Int32))] [(.int (20 : Int32))])) _
          refine Goes.via (fun t k => XS.istore X0.here hx rfl (hb hby d3_40) rfl (l' := #[.val (.ref a1), .val (.int (0 : Int32)), .val (.int (20 : Int32)), .val (.int p4), .val (.int (20 : Int32)), .val (.int (19 : Int32)), .val (.int (19 : Int32)), .val (.int (65279 : Int32))]) rfl k) ?_
          show Goes p e below (s₁.setTop (mkF m 42 #[.val (.ref a1), .val (.int (0 : Int32)), .val (.int (20 : Int32)), .val (.int p4), .val (.int (20 : Int32)), .val (.int (19 : Int32)), .val (.int (19 : Int32)), .val (.int (65279 : Int32))] [])) _
          refine Goes.via (fun t k => XS.goto X0.here hx rfl (pc0 := 42) (pc' := 63) rfl (hb hby d3_42) (by decide) (by decide) k) ?_
          show Goes p e below (s₁.setTop (mkF m 63 #[.val (.ref a1), .val (.int (0 : Int32)), .val (.int (20 : Int32)), .val (.int p4), .val (.int (20 : Int32)), .val (.int (19 : Int32)), .val (.int (19 : Int32)), .val (.int (65279 : Int32))] [])) _
          refine Goes.via (fun t k => XS.goto X0.here hx rfl (pc0 := 63) (pc' := 8) rfl (hb hby d3_63) (by decide) (by decide) k) ?_
          show Goes p e below (s₁.setTop (mkF m 8 #[.val (.ref a1), .val (.int (0 : Int32)), .val (.int (20 : Int32)), .val (.int p4), .val (.int (20 : Int32)), .val (.int (19 : Int32)), .val (.int (19 : Int32)), .val (.int (65279 : Int32))] [])) _
          refine Goes.via (fun t k => XS.iload X0.here hx rfl (hb hby d3_8) rfl k) ?_
          show Goes p e below (s₁.setTop (mkF m 10 #[.val (.ref a1), .val (.int (0 : Int32)), .val (.int (20 : Int32)), .val (.int p4), .val (.int (20 : Int32)), .val (.int (19 : Int32)), .val (.int (19 : Int32)), .val (.int (65279 : Int32))] [(.int (20 : Int32))])) _
          refine Goes.via (fun t k => XS.iload X0.here hx rfl (hb hby d3_10) rfl k) ?_
          show Goes p e below (s₁.setTop (mkF m 12 #[.val (.ref a1), .val (.int (0 : Int32)), .val (.int (20 : Int32)), .val (.int p4), .val (.int (20 : Int32)), .val (.int (19 : Int32)), .val (.int (19 : Int32)), .val (.int (65279 : Int32))] [(.int (19 : Int32)), (.int (20 : Int32))])) _
          refine Goes.via (fun t k => XS.icmpYes X0.here hx rfl (pc0 := 12) (pc' := 66) rfl (hb hby d3_12) rfl (tlt (show (19 : Int32) < (20 : Int32) from (by decide))).2.2.1 (by decide) (by decide) k) ?_
          show Goes p e below (s₁.setTop (mkF m 66 #[.val (.ref a1), .val (.int (0 : Int32)), .val (.int (20 : Int32)), .val (.int p4), .val (.int (20 : Int32)), .val (.int (19 : Int32)), .val (.int (19 : Int32)), .val (.int (65279 : Int32))] [])) _
          refine Goes.via (fun t k => XS.iload X0.here hx rfl (hb hby d3_66) rfl k) ?_
          show Goes p e below (s₁.setTop (mkF m 68 #[.val (.ref a1), .val (.int (0 : Int32)), .val (.int (20 : Int32)), .val (.int p4), .val (.int (20 : Int32)), .val (.int (19 : Int32)), .val (.int (19 : Int32)), .val (.int (65279 : Int32))] [(.int (20 : Int32))])) _
          refine Goes.via (fun t k => XS.iconst X0.here hx rfl (hb hby d3_68) k) ?_
          show Goes p e below (s₁.setTop (mkF m 69 #[.val (.ref a1), .val (.int (0 : Int32)), .val (.int (20 : Int32)), .val (.int p4), .val (.int (20 : Int32)), .val (.int (19 : Int32)), .val (.int (19 : Int32)), .val (.int (65279 : Int32))] [(.int (1 : Int32)), (.int (20 : Int32))])) _
          refine Goes.via (fun t k => XS.iadd X0.here hx rfl (hb hby d3_69) rfl k) ?_
          show Goes p e below (s₁.setTop (mkF m 70 #[.val (.ref a1), .val (.int (0 : Int32)), .val (.int (20 : Int32)), .val (.int p4), .val (.int (20 : Int32)), .val (.int (19 : Int32)), .val (.int (19 : Int32)), .val (.int (65279 : Int32))] [(.int (21 : Int32))])) _
          refine Goes.via (fun t k => XS.ineg X0.here hx rfl (hb hby d3_70) rfl k) ?_
          show Goes p e below (s₁.setTop (mkF m 71 #[.val (.ref a1), .val (.int (0 : Int32)), .val (.int (20 : Int32)), .val (.int p4), .val (.int (20 : Int32)), .val (.int (19 : Int32)), .val (.int (19 : Int32)), .val (.int (65279 : Int32))] [(.int (-21 : Int32))])) _
          obtain ⟨fs, hr, hrun, hended, hW, hsame⟩ := X0.leave (v := some (.int (-21 : Int32))) (fun h => by rw [Bd.returns] at h; cases h)
          refine ⟨_, _, ?_, hrun, hended, _, _, rfl, ?_, ⟨_, rfl⟩, hW, hsame.mono (by decide) (by decide)⟩
          · exact retI X0 hx Bd.returns (hb hby d3_71) hr
          · show Q3 Z a1 p4 h0 n0 _ s₁.heap _
            rw [e0]
            exact ⟨congrArg some (congrArg _ (by simp only [f3, if_pos hc33_2, if_pos hc33_4, if_pos hc33_6, if_pos hc33_8])), N0, rfl⟩
        · refine Goes.via (fun t k => XS.icmpYes X0.here hx rfl (pc0 := 33) (pc' := 45) rfl (hb hby d3_33) rfl (flt hc33_8).2.1 (by decide) (by decide) k) ?_
          show Goes p e below (s₁.setTop (mkF m 45 #[.val (.ref a1), .val (.int (0 : Int32)), .val (.int (20 : Int32)), .val (.int p4), .val (.int (18 : Int32)), .val (.int (19 : Int32)), .val (.int (18 : Int32)), .val (.int (65279 : Int32))] [])) _
          refine Goes.via (fun t k => XS.iload X0.here hx rfl (hb hby d3_45) rfl k) ?_
          show Goes p e below (s₁.setTop (mkF m 47 #[.val (.ref a1), .val (.int (0 : Int32)), .val (.int (20 : Int32)), .val (.int p4), .val (.int (18 : Int32)), .val (.int (19 : Int32)), .val (.int (18 : Int32)), .val (.int (65279 : Int32))] [(.int (65279 : Int32))])) _
          refine Goes.via (fun t k => XS.iloadN X0.here hx rfl (hb hby d3_47) rfl k) ?_
          show Goes p e below (s₁.setTop (mkF m 48 #[.val (.ref a1), .val (.int (0 : Int32)), .val (.int (20 : Int32)), .val (.int p4), .val (.int (18 : Int32)), .val (.int (19 : Int32)), .val (.int (18 : Int32)), .val (.int (65279 : Int32))] [(.int p4), (.int (65279 : Int32))])) _
          by_cases hc48_10 : p4 < (65279 : Int32)
          · refine Goes.via (fun t k => XS.icmpNo X0.here hx rfl (hb hby d3_48) rfl (tlt hc48_10).2.2.2 k) ?_
            show Goes p e below (s₁.setTop (mkF m 51 #[.val (.ref a1), .val (.int (0 : Int32)), .val (.int (20 : Int32)), .val (.int p4), .val (.int (18 : Int32)), .val (.int (19 : Int32)), .val (.int (18 : Int32)), .val (.int (65279 : Int32))] [])) _
            refine Goes.via (fun t k => XS.iload X0.here hx rfl (hb hby d3_51) rfl k) ?_
            show Goes p e below (s₁.setTop (mkF m 53 #[.val (.ref a1), .val (.int (0 : Int32)), .val (.int (20 : Int32)), .val (.int p4), .val (.int (18 : Int32)), .val (.int (19 : Int32)), .val (.int (18 : Int32)), .val (.int (65279 : Int32))] [(.int (18 : Int32))])) _
            refine Goes.via (fun t k => XS.iconst X0.here hx rfl (hb hby d3_53) k) ?_
            show Goes p e below (s₁.setTop (mkF m 54 #[.val (.ref a1), .val (.int (0 : Int32)), .val (.int (20 : Int32)), .val (.int p4), .val (.int (18 : Int32)), .val (.int (19 : Int32)), .val (.int (18 : Int32)), .val (.int (65279 : Int32))] [(.int (1 : Int32)), (.int (18 : Int32))])) _
            refine Goes.via (fun t k => XS.isub X0.here hx rfl (hb hby d3_54) rfl k) ?_
            show Goes p e below (s₁.setTop (mkF m 55 #[.val (.ref a1), .val (.int (0 : Int32)), .val (.int (20 : Int32)), .val (.int p4), .val (.int (18 : Int32)), .val (.int (19 : Int32)), .val (.int (18 : Int32)), .val (.int (65279 : Int32))] [(.int (17 : Int32))])) _
            refine Goes.via (fun t k => XS.istore X0.here hx rfl (hb hby d3_55) rfl (l' := #[.val (.ref a1), .val (.int (0 : Int32)), .val (.int (20 : Int32)), .val (.int p4), .val (.int (18 : Int32)), .val (.int (17 : Int32)), .val (.int (18 : Int32)), .val (.int (65279 : Int32))]) rfl k) ?_
            show Goes p e below (s₁.setTop (mkF m 57 #[.val (.ref a1), .val (.int (0 : Int32)), .val (.int (20 : Int32)), .val (.int p4), .val (.int (18 : Int32)), .val (.int (17 : Int32)), .val (.int (18 : Int32)), .val (.int (65279 : Int32))] [])) _
            refine Goes.via (fun t k => XS.goto X0.here hx rfl (pc0 := 57) (pc' := 63) rfl (hb hby d3_57) (by decide) (by decide) k) ?_
            show Goes p e below (s₁.setTop (mkF m 63 #[.val (.ref a1), .val (.int (0 : Int32)), .val (.int (20 : Int32)), .val (.int p4), .val (.int (18 : Int32)), .val (.int (17 : Int32)), .val (.int (18 : Int32)), .val (.int (65279 : Int32))] [])) _
            refine Goes.via (fun t k => XS.goto X0.here hx rfl (pc0 := 63) (pc' := 8) rfl (hb hby d3_63) (by decide) (by decide) k) ?_
            show Goes p e below (s₁.setTop (mkF m 8 #[.val (.ref a1), .val (.int (0 : Int32)), .val (.int (20 : Int32)), .val (.int p4), .val (.int (18 : Int32)), .val (.int (17 : Int32)), .val (.int (18 : Int32)), .val (.int (65279 : Int32))] [])) _
            refine Goes.via (fun t k => XS.iload X0.here hx rfl (hb hby d3_8) rfl k) ?_
            show Goes p e below (s₁.setTop (mkF m 10 #[.val (.ref a1), .val (.int (0 : Int32)), .val (.int (20 : Int32)), .val (.int p4), .val (.int (18 : Int32)), .val (.int (17 : Int32)), .val (.int (18 : Int32)), .val (.int (65279 : Int32))] [(.int (18 : Int32))])) _
            refine Goes.via (fun t k => XS.iload X0.here hx rfl (hb hby d3_10) rfl k) ?_
            show Goes p e below (s₁.setTop (mkF m 12 #[.val (.ref a1), .val (.int (0 : Int32)), .val (.int (20 : Int32)), .val (.int p4), .val (.int (18 : Int32)), .val (.int (17 : Int32)), .val (.int (18 : Int32)), .val (.int (65279 : Int32))] [(.int (17 : Int32)), (.int (18 : Int32))])) _
            refine Goes.via (fun t k => XS.icmpYes X0.here hx rfl (pc0 := 12) (pc' := 66) rfl (hb hby d3_12) rfl (tlt (show (17 : Int32) < (18 : Int32) from (by decide))).2.2.1 (by decide) (by decide) k) ?_
            show Goes p e below (s₁.setTop (mkF m 66 #[.val (.ref a1), .val (.int (0 : Int32)), .val (.int (20 : Int32)), .val (.int p4), .val (.int (18 : Int32)), .val (.int (17 : Int32)), .val (.int (18 : Int32)), .val (.int (65279 : Int32))] [])) _
            refine Goes.via (fun t k => XS.iload X0.here hx rfl (hb hby d3_66) rfl k) ?_
            show Goes p e below (s₁.setTop (mkF m 68 #[.val (.ref a1), .val (.int (0 : Int32)), .val (.int (20 : Int32)), .val (.int p4), .val (.int (18 : Int32)), .val (.int (17 : Int32)), .val (.int (18 : Int32)), .val (.int (65279 : Int32))] [(.int (18 : Int32))])) _
            refine Goes.via (fun t k => XS.iconst X0.here hx rfl (hb hby d3_68) k) ?_
            show Goes p e below (s₁.setTop (mkF m 69 #[.val (.ref a1), .val (.int (0 : Int32)), .val (.int (20 : Int32)), .val (.int p4), .val (.int (18 : Int32)), .val (.int (17 : Int32)), .val (.int (18 : Int32)), .val (.int (65279 : Int32))] [(.int (1 : Int32)), (.int (18 : Int32))])) _
            refine Goes.via (fun t k => XS.iadd X0.here hx rfl (hb hby d3_69) rfl k) ?_
            show Goes p e below (s₁.setTop (mkF m 70 #[.val (.ref a1), .val (.int (0 : Int32)), .val (.int (20 : Int32)), .val (.int p4), .val (.int (18 : Int32)), .val (.int (17 : Int32)), .val (.int (18 : Int32)), .val (.int (65279 : Int32))] [(.int (19 : Int32))])) _
            refine Goes.via (fun t k => XS.ineg X0.here hx rfl (hb hby d3_70) rfl k) ?_
            show Goes p e below (s₁.setTop (mkF m 71 #[.val (.ref a1), .val (.int (0 : Int32)), .val (.int (20 : Int32)), .val (.int p4), .val (.int (18 : Int32)), .val (.int (17 : Int32)), .val (.int (18 : Int32)), .val (.int (65279 : Int32))] [(.int (-19 : Int32))])) _
            obtain ⟨fs, hr, hrun, hended, hW, hsame⟩ := X0.leave (v := some (.int (-19 : Int32))) (fun h => by rw [Bd.returns] at h; cases h)
            refine ⟨_, _, ?_, hrun, hended, _, _, rfl, ?_, ⟨_, rfl⟩, hW, hsame.mono (by decide) (by decide)⟩
            · exact retI X0 hx Bd.returns (hb hby d3_71) hr
            · show Q3 Z a1 p4 h0 n0 _ s₁.heap _
              rw [e0]
              exact ⟨congrArg some (congrArg _ (by simp only [f3, if_pos hc33_2, if_pos hc33_4, if_pos hc33_6, if_neg hc33_8, if_pos hc48_10])), N0, rfl⟩
          · refine Goes.via (fun t k => XS.icmpYes X0.here hx rfl (pc0 := 48) (pc' := 60) rfl (hb hby d3_48) rfl (flt hc48_10).2.2.2 (by decide) (by decide) k) ?_
            show Goes p e below (s₁.setTop (mkF m 60 #[.val (.ref a1), .val (.int (0 : Int32)), .val (.int (20 : Int32)), .val (.int p4), .val (.int (18 : Int32)), .val (.int (19 : Int32)), .val (.int (18 : Int32)), .val (.int (65279 : Int32))] [])) _
            refine Goes.via (fun t k => XS.iload X0.here hx rfl (hb hby d3_60) rfl k) ?_
            show Goes p e below (s₁.setTop (mkF m 62 #[.val (.ref a1), .val (.int (0 : Int32)), .val (.int (20 : Int32)), .val (.int p4), .val (.int (18 : Int32)), .val (.int (19 : Int32)), .val (.int (18 : Int32)), .val (.int (65279 : Int32))] [(.int (18 : Int32))])) _
            obtain ⟨fs, hr, hrun, hended, hW, hsame⟩ := X0.leave (v := some (.int (18 : Int32))) (fun h => by rw [Bd.returns] at h; cases h)
            refine ⟨_, _, ?_, hrun, hended, _, _, rfl, ?_, ⟨_, rfl⟩, hW, hsame.mono (by decide) (by decide)⟩
            · exact retI X0 hx Bd.returns (hb hby d3_62) hr
            · show Q3 Z a1 p4 h0 n0 _ s₁.heap _
              rw [e0]
              exact ⟨congrArg some (congrArg _ (by simp only [f3, if_pos hc33_2, if_pos hc33_4, if_pos hc33_6, if_neg hc33_8, if_neg hc48_10])), N0, rfl⟩
      · refine Goes.via (fun t k => XS.icmpYes X0.here hx rfl (pc0 := 33) (pc' := 45) rfl (hb hby d3_33) rfl (flt hc33_6).2.1 (by decide) (by decide) k) ?_
        show Goes p e below (s₁.setTop (mkF m 45 #[.val (.ref a1), .val (.int (0 : Int32)), .val (.int (20 : Int32)), .val (.int p4), .val (.int (15 : Int32)), .val (.int (19 : Int32)), .val (.int (17 : Int32)), .val (.int (12288 : Int32))] [])) _
        refine Goes.via (fun t k => XS.iload X0.here hx rfl (hb hby d3_45) rfl k) ?_
        show Goes p e below (s₁.setTop (mkF m 47 #[.val (.ref a1), .val (.int (0 : Int32)), .val (.int (20 : Int32)), .val (.int p4), .val (.int (15 : Int32)), .val (.int (19 : Int32)), .val (.int (17 : Int32)), .val (.int (12288 : Int32))] [(.int (12288 : Int32))])) _
        refine Goes.via (fun t k => XS.iloadN X0.here hx rfl (hb hby d3_47) rfl k) ?_
        show Goes p e below (s₁.setTop (mkF m 48 #[.val (.ref a1), .val (.int (0 : Int32)), .val (.int (20 : Int32)), .val (.int p4), .val (.int (15 : Int32)), .val (.int (19 : Int32)), .val (.int (17 : Int32)), .val (.int (12288 : Int32))] [(.int p4), (.int (12288 : Int32))])) _
        by_cases hc48_11 : p4 < (12288 : Int32)
        · refine Goes.via (fun t k => XS.icmpNo X0.here hx rfl (hb hby d3_48) rfl (tlt hc48_11).2.2.2 k) ?_
          show Goes p e below (s₁.setTop (mkF m 51 #[.val (.ref a1), .val (.int (0 : Int32)), .val (.int (20 : Int32)), .val (.int p4), .val (.int (15 : Int32)), .val (.int (19 : Int32)), .val (.int (17 : Int32)), .val (.int (12288 : Int32))] [])) _
          refine Goes.via (fun t k => XS.iload X0.here hx rfl (hb hby d3_51) rfl k) ?_
          show Goes p e below (s₁.setTop (mkF m 53 #[.val (.ref a1), .val (.int (0 : Int32)), .val (.int (20 : Int32)), .val (.int p4), .val (.int (15 : Int32)), .val (.int (19 : Int32)), .val (.int (17 : Int32)), .val (.int (12288 : Int32))] [(.int (17 : Int32))])) _
          refine Goes.via (fun t k => XS.iconst X0.here hx rfl (hb hby d3_53) k) ?_
          show Goes p e below (s₁.setTop (mkF m 54 #[.val (.ref a1), .val (.int (0 : Int32)), .val (.int (20 : Int32)), .val (.int p4), .val (.int (15 : Int32)), .val (.int (19 : Int32)), .val (.int (17 : Int32)), .val (.int (12288 : Int32))] [(.int (1 : Int32)), (.int (17 : Int32))])) _
          refine Goes.via (fun t k => XS.isub X0.here hx rfl (hb hby d3_54) rfl k) ?_
          show Goes p e below (s₁.setTop (mkF m 55 #[.val (.ref a1), .val (.int (0 : Int32)), .val (.int (20 : Int32)), .val (.int p4), .val (.int (15 : Int32)), .val (.int (19 : Int32)), .val (.int (17 : Int32)), .val (.int (12288 : Int32))] [(.int (16 : Int32))])) _
          refine Goes.via (fun t k => XS.istore X0.here hx rfl (hb hby d3_55) rfl (l' := #[.val (.ref a1), .val (.int (0 : Int32)), .val (.int (20 : Int32)), .val (.int p4), .val (.int (15 : Int32)), .val (.int (16 : Int32)), .val (.int (17 : Int32)), .val (.int (12288 : Int32))]) rfl k) ?_
          show Goes p e below (s₁.setTop (mkF m 57 #[.val (.ref a1), .val (.int (0 : Int32)), .val (.int (20 : Int32)), .val (.int p4), .val (.int (15 : Int32)), .val (.int (16 : Int32)), .val (.int (17 : Int32)), .val (.int (12288 : Int32))] [])) _
          refine Goes.via (fun t k => XS.goto X0.here hx rfl (pc0 := 57) (pc' := 63) rfl (hb hby d3_57) (by decide) (by decide) k) ?_
          show Goes p e below (s₁.setTop (mkF m 63 #[.val (.ref a1), .val (.int (0 : Int32)), .val (.int (20 : Int32)), .val (.int p4), .val (.int (15 : Int32)), .val (.int (16 : Int32)), .val (.int (17 : Int32)), .val (.int (12288 : Int32))] [])) _
          refine Goes.via (fun t k => XS.goto X0.here hx rfl (pc0 := 63) (pc' := 8) rfl (hb hby d3_63) (by decide) (by decide) k) ?_
          show Goes p e below (s₁.setTop (mkF m 8 #[.val (.ref a1), .val (.int (0 : Int32)), .val (.int (20 : Int32)), .val (.int p4), .val (.int (15 : Int32)), .val (.int (16 : Int32)), .val (.int (17 : Int32)), .val (.int (12288 : Int32))] [])) _
          refine Goes.via (fun t k => XS.iload X0.here hx rfl (hb hby d3_8) rfl k) ?_
          show Goes p e below (s₁.setTop (mkF m 10 #[.val (.ref a1), .val (.int (0 : Int32)), .val (.int (20 : Int32)), .val (.int p4), .val (.int (15 : Int32)), .val (.int (16 : Int32)), .val (.int (17 : Int32)), .val (.int (12288 : Int32))] [(.int (15 : Int32))])) _
          refine Goes.via (fun t k => XS.iload X0.here hx rfl (hb hby d3_10) rfl k) ?_
          show Goes p e below (s₁.setTop (mkF m 12 #[.val (.ref a1), .val (.int (0 : Int32)), .val (.int (20 : Int32)), .val (.int p4), .val (.int (15 : Int32)), .val (.int (16 : Int32)), .val (.int (17 : Int32)), .val (.int (12288 : Int32))] [(.int (16 : Int32)), (.int (15 : Int32))])) _
          refine Goes.via (fun t k => XS.icmpNo X0.here hx rfl (hb hby d3_12) rfl (flt (show ¬ ((16 : Int32) < (15 : Int32)) from (by decide))).2.2.1 k) ?_
          show Goes p e below (s₁.setTop (mkF m 15 #[.val (.ref a1), .val (.int (0 : Int32)), .val (.int (20 : Int32)), .val (.int p4), .val (.int (15 : Int32)), .val (.int (16 : Int32)), .val (.int (17 : Int32)), .val (.int (12288 : Int32))] [])) _
          refine Goes.via (fun t k => XS.iload X0.here hx rfl (hb hby d3_15) rfl k) ?_
          show Goes p e below (s₁.setTop (mkF m 17 #[.val (.ref a1), .val (.int (0 : Int32)), .val (.int (20 : Int32)), .val (.int p4), .val (.int (15 : Int32)), .val (.int (16 : Int32)), .val (.int (17 : Int32)), .val (.int (12288 : Int32))] [(.int (15 : Int32))])) _
          refine Goes.via (fun t k => XS.iload X0.here hx rfl (hb hby d3_17) rfl k) ?_
          show Goes p e below (s₁.setTop (mkF m 19 #[.val (.ref a1), .val (.int (0 : Int32)), .val (.int (20 : Int32)), .val (.int p4), .val (.int (15 : Int32)), .val (.int (16 : Int32)), .val (.int (17 : Int32)), .val (.int (12288 : Int32))] [(.int (16 : Int32)), (.int (15 : Int32))])) _
          refine Goes.via (fun t k => XS.iadd X0.here hx rfl (hb hby d3_19) rfl k) ?_
          show Goes p e below (s₁.setTop (mkF m 20 #[.val (.ref a1), .val (.int (0 : Int32)), .val (.int (20 : Int32)), .val (.int p4), .val (.int (15 : Int32)), .val (.int (16 : Int32)), .val (.int (17 : Int32)), .val (.int (12288 : Int32))] [(.int (31 : Int32))])) _
          refine Goes.via (fun t k => XS.iconst X0.here hx rfl (hb hby d3_20) k) ?_
          show Goes p e below (s₁.setTop (mkF m 21 #[.val (.ref a1), .val (.int (0 : Int32)), .val (.int (20 : Int32)), .val (.int p4), .val (.int (15 : Int32)), .val (.int (16 : Int32)), .val (.int (17 : Int32)), .val (.int (12288 : Int32))] [(.int (1 : Int32)), (.int (31 : Int32))])) _
          refine Goes.via (fun t k => XS.iushr X0.here hx rfl (hb hby d3_21) rfl k) ?_
          show Goes p e below (s₁.setTop (mkF m 22 #[.val (.ref a1), .val (.int (0 : Int32)), .val (.int (20 : Int32)), .val (.int p4), .val (.int (15 : Int32)), .val (.int (16 : Int32)), .val (.int (17 : Int32)), .val (.int (12288 : Int32))] [(.int (15 : Int32))])) _
          refine Goes.via (fun t k => XS.istore X0.here hx rfl (hb hby d3_22) rfl (l' := #[.val (.ref a1), .val (.int (0 : Int32)), .val (.int (20 : Int32)), .val (.int p4), .val (.int (15 : Int32)), .val (.int (16 : Int32)), .val (.int (15 : Int32)), .val (.int (12288 : Int32))]) rfl k) ?_
          show Goes p e below (s₁.setTop (mkF m 24 #[.val (.ref a1), .val (.int (0 : Int32)), .val (.int (20 : Int32)), .val (.int p4), .val (.int (15 : Int32)), .val (.int (16 : Int32)), .val (.int (15 : Int32)), .val (.int (12288 : Int32))] [])) _
          refine Goes.via (fun t k => XS.aloadN X0.here hx rfl (hb hby d3_24) rfl rfl k) ?_
          show Goes p e below (s₁.setTop (mkF m 25 #[.val (.ref a1), .val (.int (0 : Int32)), .val (.int (20 : Int32)), .val (.int p4), .val (.int (15 : Int32)), .val (.int (16 : Int32)), .val (.int (15 : Int32)), .val (.int (12288 : Int32))] [(.ref a1)])) _
          refine Goes.via (fun t k => XS.iload X0.here hx rfl (hb hby d3_25) rfl k) ?_
          show Goes p e below (s₁.setTop (mkF m 27 #[.val (.ref a1), .val (.int (0 : Int32)), .val (.int (20 : Int32)), .val (.int p4), .val (.int (15 : Int32)), .val (.int (16 : Int32)), .val (.int (15 : Int32)), .val (.int (12288 : Int32))] [(.int (15 : Int32)), (.ref a1)])) _
          obtain ⟨cl12, Ar12, qa12, Sa12, Na12, Ha12, Ga12⟩ := id V1
          have hin12 : ¬ ((15 : Int32) < 0 ∨ cl12.slots.size ≤ ((15 : Int32)).toNatClampNeg) := inb_of Sa12 ⟨by decide, by decide⟩
          have hat12 : cl12.slots[((15 : Int32)).toNatClampNeg]? = some (.int (8287 : Int32)) := Ha12.at hin12 rfl
          refine Goes.via (fun t k => X0.iaload hx (j := (15 : Int32)) (v := (.int (8287 : Int32))) (by rw [e0]; exact Ar12.1) (State.isArrayOf_alike hZ.alike Ar12.2.1) Ar12.2.2 hin12 hat12 (g := (mkF m 27 #[.val (.ref a1), .val (.int (0 : Int32)), .val (.int (20 : Int32)), .val (.int p4), .val (.int (15 : Int32)), .val (.int (16 : Int32)), .val (.int (15 : Int32)), .val (.int (12288 : Int32))] [(.int (15 : Int32)), (.ref a1)])) rfl rfl (hb hby d3_27) _ k) ?_
          show Goes p e below (s₁.setTop (mkF m 28 #[.val (.ref a1), .val (.int (0 : Int32)), .val (.int (20 : Int32)), .val (.int p4), .val (.int (15 : Int32)), .val (.int (16 : Int32)), .val (.int (15 : Int32)), .val (.int (12288 : Int32))] [(.int (8287 : Int32))])) _
          refine Goes.via (fun t k => XS.istore X0.here hx rfl (hb hby d3_28) rfl (l' := #[.val (.ref a1), .val (.int (0 : Int32)), .val (.int (20 : Int32)), .val (.int p4), .val (.int (15 : Int32)), .val (.int (16 : Int32)), .val (.int (15 : Int32)), .val (.int (8287 : Int32))]) rfl k) ?_
          show Goes p e below (s₁.setTop (mkF m 30 #[.val (.ref a1), .val (.int (0 : Int32)), .val (.int (20 : Int32)), .val (.int p4), .val (.int (15 : Int32)), .val (.int (16 : Int32)), .val (.int (15 : Int32)), .val (.int (8287 : Int32))] [])) _
          refine Goes.via (fun t k => XS.iload X0.here hx rfl (hb hby d3_30) rfl k) ?_
          show Goes p e below (s₁.setTop (mkF m 32 #[.val (.ref a1), .val (.int (0 : Int32)), .val (.int (20 : Int32)), .val (.int p4), .val (.int (15 : Int32)), .val (.int (16 : Int32)), .val (.int (15 : Int32)), .val (.int (8287 : Int32))] [(.int (8287 : Int32))])) _
          refine Goes.via (fun t k => XS.iloadN X0.here hx rfl (hb hby d3_32) rfl k) ?_
          show Goes p e below (s₁.setTop (mkF m 33 #[.val (.ref a1), .val (.int (0 : Int32)), .val (.int (20 : Int32)), .val (.int p4), .val (.int (15 : Int32)), .val (.int (16 : Int32)), .val (.int (15 : Int32)), .val (.int (8287 : Int32))] [(.int p4), (.int (8287 : Int32))])) _
          refine Goes.via (fun t k => XS.icmpNo X0.here hx rfl (hb hby d3_33) rfl (tlt hc33_4).2.1 k) ?_
          show Goes p e below (s₁.setTop (mkF m 36 #[.val (.ref a1), .val (.int (0 : Int32)), .val (.int (20 : Int32)), .val (.int p4), .val (.int (15 : Int32)), .val (.int (16 : Int32)), .val (.int (15 : Int32)), .val (.int (8287 : Int32))] [])) _
          refine Goes.via (fun t k => XS.iload X0.here hx rfl (hb hby d3_36) rfl k) ?_
          show Goes p e below (s₁.setTop (mkF m 38 #[.val (.ref a1), .val (.int (0 : Int32)), .val (.int (20 : Int32)), .val (.int p4), .val (.int (15 : Int32)), .val (.int (16 : Int32)), .val (.int (15 : Int32)), .val (.int (8287 : Int32))] [(.int (15 : Int32))])) _
          refine Goes.via (fun t k => XS.iconst X0.here hx rfl (hb hby d3_38) k) ?_
          show Goes p e below (s₁.setTop (mkF m 39 #[.val (.ref a1), .val (.int (0 : Int32)), .val (.int (20 : Int32)), .val (.int p4), .val (.int (15 : Int32)), .val (.int (16 : Int32)), .val (.int (15 : Int32)), .val (.int (8287 : Int32))] [(.int (1 : Int32)), (.int (15 : Int32))])) _
          refine Goes.via (fun t k => XS.iadd X0.here hx rfl (hb hby d3_39) rfl k) ?_
          show Goes p e below (s₁.setTop (mkF m 40 #[.val (.ref a1), .val (.int (0 : Int32)), .val (.int (20 : Int32)), .val (.int p4), .val (.int (15 : Int32)), .val (.int (16 : Int32)), .val (.int (15 : Int32)), .val (.int (8287 : Int32))] [(.int (16 : Int32))])) _
          refine Goes.via (fun t k => XS.istore X0.here hx rfl (hb hby d3_40) rfl (l' := #[.val (.ref a1), .val (.int (0 : Int32)), .val (.int (20 : Int32)), .val (.int p4), .val (.int (16 : Int32)), .val (.int (16 : Int32)), .val (.int (15 : Int32)), .val (.int (8287 : Int32))]) rfl k) ?_
          show Goes p e below (s₁.setTop (mkF m 42 #[.val (.ref a1), .val (.int (0 : Int32)), .val (.int (20 : Int32)), .val (.int p4), .val (.int (16 : Int32)), .val (.int (16 : Int32)), .val (.int (15 : Int32)), .val (.int (8287 : Int32))] [])) _
          refine Goes.via (fun t k => XS.goto X0.here hx rfl (pc0 := 42) (pc' := 63) rfl (hb hby d3_42) (by decide) (by decide) k) ?_
          show Goes p e below (s₁.setTop (mkF m 63 #[.val (.ref a1), .val (.int (0 : Int32)), .val (.int (20 : Int32)), .val (.int p4), .val (.int (16 : Int32)), .val (.int (16 : Int32)), .val (.int (15 : Int32)), .val (.int (8287 : Int32))] [])) _
          refine Goes.via (fun t k => XS.goto X0.here hx rfl (pc0 := 63) (pc' := 8) rfl (hb hby d3_63) (by decide) (by decide) k) ?_
          show Goes p e below (s₁.setTop (mkF m 8 #[.val (.ref a1), .val (.int (0 : Int32)), .val (.int (20 : Int32)), .val (.int p4), .val (.int (16 : Int32)), .val (.int (16 : Int32)), .val (.int (15 : Int32)), .val (.int (8287 : Int32))] [])) _
          refine Goes.via (fun t k => XS.iload X0.here hx rfl (hb hby d3_8) rfl k) ?_
          show Goes p e below (s₁.setTop (mkF m 10 #[.val (.ref a1), .val (.int (0 : Int32)), .val (.int (20 : Int32)), .val (.int p4), .val (.int (16 : Int32)), .val (.int (16 : Int32)), .val (.int (15 : Int32)), .val (.int (8287 : Int32))] [(.int (16 : Int32))])) _
          refine Goes.via (fun t k => XS.iload X0.here hx rfl (hb hby d3_10) rfl k) ?_
          show Goes p e below (s₁.setTop (mkF m 12 #[.val (.ref a1), .val (.int (0 : Int32)), .val (.int (20 : Int32)), .val (.int p4), .val (.int (16 : Int32)), .val (.int (16 : Int32)), .val (.int (15 : Int32)), .val (.int (8287 : Int32))] [(.int (16 : Int32)), (.int (16 : Int32))])) _
          refine Goes.via (fun t k => XS.icmpNo X0.here hx rfl (hb hby d3_12) rfl (flt (show ¬ ((16 : Int32) < (16 : Int32)) from (by decide))).2.2.1 k) ?_
          show Goes p e below (s₁.setTop (mkF m 15 #[.val (.ref a1), .val (.int (0 : Int32)), .val (.int (20 : Int32)), .val (.int p4), .val (.int (16 : Int32)), .val (.int (16 : Int32)), .val (.int (15 : Int32)), .val (.int (8287 : Int32))] [])) _
          refine Goes.via (fun t k => XS.iload X0.here hx rfl (hb hby d3_15) rfl k) ?_
          show Goes p e below (s₁.setTop (mkF m 17 #[.val (.ref a1), .val (.int (0 : Int32)), .val (.int (20 : Int32)), .val (.int p4), .val (.int (16 : Int32)), .val (.int (16 : Int32)), .val (.int (15 : Int32)), .val (.int (8287 : Int32))] [(.int (16 : Int32))])) _
          refine Goes.via (fun t k => XS.iload X0.here hx rfl (hb hby d3_17) rfl k) ?_
          show Goes p e below (s₁.setTop (mkF m 19 #[.val (.ref a1), .val (.int (0 : Int32)), .val (.int (20 : Int32)), .val (.int p4), .val (.int (16 : Int32)), .val (.int (16 : Int32)), .val (.int (15 : Int32)), .val (.int (8287 : Int32))] [(.int (16 : Int32)), (.int (16 : Int32))])) _
          refine Goes.via (fun t k => XS.iadd X0.here hx rfl (hb hby d3_19) rfl k) ?_
          show Goes p e below (s₁.setTop (mkF m 20 #[.val (.ref a1), .val (.int (0 : Int32)), .val (.int (20 : Int32)), .val (.int p4), .val (.int (16 : Int32)), .val (.int (16 : Int32)), .val (.int (15 : Int32)), .val (.int (8287 : Int32))] [(.int (32 : Int32))])) _
          refine Goes.via (fun t k => XS.iconst X0.here hx rfl (hb hby d3_20) k) ?_
          show Goes p e below (s₁.setTop (mkF m 21 #[.val (.ref a1), .val (.int (0 : Int32)), .val (.int (20 : Int32)), .val (.int p4), .val (.int (16 : Int32)), .val (.int (16 : Int32)), .val (.int (15 : Int32)), .val (.int (8287 : Int32))] [(.int (1 : Int32)), (.int (32 : Int32))])) _
          refine Goes.via (fun t k => XS.iushr X0.here hx rfl (hb hby d3_21) rfl k) ?_
          show Goes p e below (s₁.setTop (mkF m 22 #[.val (.ref a1), .val (.int (0 : Int32)), .val (.int (20 : Int32)), .val (.int p4), .val (.int (16 : Int32)), .val (.int (16 : Int32)), .val (.int (15 : Int32)), .val (.int (8287 : Int32))] [(.int (16 : Int32))])) _
          refine Goes.via (fun t k => XS.istore X0.here hx rfl (hb hby d3_22) rfl (l' := #[.val (.ref a1), .val (.int (0 : Int32)), .val (.int (20 : Int32)), .val (.int p4), .val (.int (16 : Int32)), .val (.int (16 : Int32)), .val (.int (16 : Int32)), .val (.int (8287 : Int32))]) rfl k) ?_
          show Goes p e below (s₁.setTop (mkF m 24 #[.val (.ref a1), .val (.int (0 : Int32)), .val (.int (20 : Int32)), .val (.int p4), .val (.int (16 : Int32)), .val (.int (16 : Int32)), .val (.int (16 : Int32)), .val (.int (8287 : Int32))] [])) _
          refine Goes.via (fun t k => XS.aloadN X0.here hx rfl (hb hby d3_24) rfl rfl k) ?_
          show Goes p e below (s₁.setTop (mkF m 25 #[.val (.ref a1), .val (.int (0 : Int32)), .val (.int (20 : Int32)), .val (.int p4), .val (.int (16 : Int32)), .val (.int (16 : Int32)), .val (.int (16 : Int32)), .val (.int (8287 : Int32))] [(.ref a1)])) _
          refine Goes.via (fun t k => XS.iload X0.here hx rfl (hb hby d3_25) rfl k) ?_
          show Goes p e below (s₁.setTop (mkF m 27 #[.val (.ref a1), .val (.int (0 : Int32)), .val (.int (20 : Int32)), .val (.int p4), .val (.int (16 : Int32)), .val (.int (16 : Int32)), .val (.int (16 : Int32)), .val (.int (8287 : Int32))] [(.int (16 : Int32)), (.ref a1)])) _
          obtain ⟨cl13, Ar13, qa13, Sa13, Na13, Ha13, Ga13⟩ := id V1
          have hin13 : ¬ ((16 : Int32) < 0 ∨ cl13.slots.size ≤ ((16 : Int32)).toNatClampNeg) := inb_of Sa13 ⟨by decide, by decide⟩
          have hat13 : cl13.slots[((16 : Int32)).toNatClampNeg]? = some (.int (12288 : Int32)) := Ha13.at hin13 rfl
          refine Goes.via (fun t k => X0.iaload hx (j := (16 : Int32)) (v := (.int (12288 : Int32))) (by rw [e0]; exact Ar13.1) (State.isArrayOf_alike hZ.alike Ar13.2.1) Ar13.2.2 hin13 hat13 (g := (mkF m 27 #[.val (.ref a1), .val (.int (0 : Int32)), .val (.int (20 : Int32)), .val (.int p4), .val (.int (16 : Int32)), .val (.int (16 : Int32)), .val (.int (16 : Int32)), .val (.int (8287 : Int32))] [(.int (16 : Int32)), (.ref a1)])) rfl rfl (hb hby d3_27) _ k) ?_
          show Goes p e below (s₁.setTop (mkF m 28 #[.val (.ref a1), .val (.int (0 : Int32)), .val (.int (20 : Int32)), .val (.int p4), .val (.int (16 : Int32)), .val (.int (16 : Int32)), .val (.int (16 : Int32)), .val (.int (8287 : Int32))] [(.int (12288 : Int32))])) _
          refine Goes.via (fun t k => XS.istore X0.here hx rfl (hb hby d3_28) rfl (l' := #[.val (.ref a1), .val (.int (0 : Int32)), .val (.int (20 : Int32)), .val (.int p4), .val (.int (16 : Int32)), .val (.int (16 : Int32)), .val (.int (16 : Int32)), .val (.int (12288 : Int32))]) rfl k) ?_
          show Goes p e below (s₁.setTop (mkF m 30 #[.val (.ref a1), .val (.int (0 : Int32)), .val (.int (20 : Int32)), .val (.int p4), .val (.int (16 : Int32)), .val (.int (16 : Int32)), .val (.int (16 : Int32)), .val (.int (12288 : Int32))] [])) _
          refine Goes.via (fun t k => XS.iload X0.here hx rfl (hb hby d3_30) rfl k) ?_
          show Goes p e below (s₁.setTop (mkF m 32 #[.val (.ref a1), .val (.int (0 : Int32)), .val (.int (20 : Int32)), .val (.int p4), .val (.int (16 : Int32)), .val (.int (16 : Int32)), .val (.int (16 : Int32)), .val (.int (12288 : Int32))] [(.int (12288 : Int32))])) _
          refine Goes.via (fun t k => XS.iloadN X0.here hx rfl (hb hby d3_32) rfl k) ?_
          show Goes p e below (s₁.setTop (mkF m 33 #[.val (.ref a1), .val (.int (0 : Int32)), .val (.int (20 : Int32)), .val (.int p4), .val (.int (16 : Int32)), .val (.int (16 : Int32)), .val (.int (16 : Int32)), .val (.int (12288 : Int32))] [(.int p4), (.int (12288 : Int32))])) _
          refine Goes.via (fun t k => XS.icmpYes X0.here hx rfl (pc0 := 33) (pc' := 45) rfl (hb hby d3_33) rfl (flt hc33_6).2.1 (by decide) (by decide) k) ?_
          show Goes p e below (s₁.setTop (mkF m 45 #[.val (.ref a1), .val (.int (0 : Int32)), .val (.int (20 : Int32)), .val (.int p4), .val (.int (16 : Int32)), .val (.int (16 : Int32)), .val (.int (16 : Int32)), .val (.int (12288 : Int32))] [])) _
          refine Goes.via (fun t k => XS.iload X0.here hx rfl (hb hby d3_45) rfl k) ?_
          show Goes p e below (s₁.setTop (mkF m 47 #[.val (.ref a1), .val (.int (0 : Int32)), .val (.int (20 : Int32)), .val (.int p4), .val (.int (16 : Int32)), .val (.int (16 : Int32)), .val (.int (16 : Int32)), .val (.int (12288 : Int32))] [(.int (12288 : Int32))])) _
          refine Goes.via (fun t k => XS.iloadN X0.here hx rfl (hb hby d3_47) rfl k) ?_
          show Goes p e below (s₁.setTop (mkF m 48 #[.val (.ref a1), .val (.int (0 : Int32)), .val (.int (20 : Int32)), .val (.int p4), .val (.int (16 : Int32)), .val (.int (16 : Int32)), .val (.int (16 : Int32)), .val (.int (12288 : Int32))] [(.int p4), (.int (12288 : Int32))])) _
          refine Goes.via (fun t k => XS.icmpNo X0.here hx rfl (hb hby d3_48) rfl (tlt hc48_11).2.2.2 k) ?_
          show Goes p e below (s₁.setTop (mkF m 51 #[.val (.ref a1), .val (.int (0 : Int32)), .val (.int (20 : Int32)), .val (.int p4), .val (.int (16 : Int32)), .val (.int (16 : Int32)), .val (.int (16 : Int32)), .val (.int (12288 : Int32))] [])) _
          refine Goes.via (fun t k => XS.iload X0.here hx rfl (hb hby d3_51) rfl k) ?_
          show Goes p e below (s₁.setTop (mkF m 53 #[.val (.ref a1), .val (.int (0 : Int32)), .val (.int (20 : Int32)), .val (.int p4), .val (.int (16 : Int32)), .val (.int (16 : Int32)), .val (.int (16 : Int32)), .val (.int (12288 : Int32))] [(.int (16 : Int32))])) _
          refine Goes.via (fun t k => XS.iconst X0.here hx rfl (hb hby d3_53) k) ?_
          show Goes p e below (s₁.setTop (mkF m 54 #[.val (.ref a1), .val (.int (0 : Int32)), .val (.int (20 : Int32)), .val (.int p4), .val (.int (16 : Int32)), .val (.int (16 : Int32)), .val (.int (16 : Int32)), .val (.int (12288 : Int32))] [(.int (1 : Int32)), (.int (16 : Int32))])) _
          refine Goes.via (fun t k => XS.isub X0.here hx rfl (hb hby d3_54) rfl k) ?_
          show Goes p e below (s₁.setTop (mkF m 55 #[.val (.ref a1), .val (.int (0 : Int32)), .val (.int (20 : Int32)), .val (.int p4), .val (.int (16 : Int32)), .val (.int (16 : Int32)), .val (.int (16 : Int32)), .val (.int (12288 : Int32))] [(.int (15 : Int32))])) _
          refine Goes.via (fun t k => XS.istore X0.here hx rfl (hb hby d3_55) rfl (l' := #[.val (.ref a1), .val (.int (0 : Int32)), .val (.int (20 : Int32)), .val (.int p4), .val (.int (16 : Int32)), .val (.int (15 : Int32)), .val (.int (16 : Int32)), .val (.int (12288 : Int32))]) rfl k) ?_
          show Goes p e below (s₁.setTop (mkF m 57 #[.val (.ref a1), .val (.int (0 : Int32)), .val (.int (20 : Int32)), .val (.int p4), .val (.int (16 : Int32)), .val (.int (15 : Int32)), .val (.int (16 : Int32)), .val (.int (12288 : Int32))] [])) _
          refine Goes.via (fun t k => XS.goto X0.here hx rfl (pc0 := 57) (pc' := 63) rfl (hb hby d3_57) (by decide) (by decide) k) ?_
          show Goes p e below (s₁.setTop (mkF m 63 #[.val (.ref a1), .val (.int (0 : Int32)), .val (.int (20 : Int32)), .val (.int p4), .val (.int (16 : Int32)), .val (.int (15 : Int32)), .val (.int (16 : Int32)), .val (.int (12288 : Int32))] [])) _
          refine Goes.via (fun t k => XS.goto X0.here hx rfl (pc0 := 63) (pc' := 8) rfl (hb hby d3_63) (by decide) (by decide) k) ?_
          show Goes p e below (s₁.setTop (mkF m 8 #[.val (.ref a1), .val (.int (0 : Int32)), .val (.int (20 : Int32)), .val (.int p4), .val (.int (16 : Int32)), .val (.int (15 : Int32)), .val (.int (16 : Int32)), .val (.int (12288 : Int32))] [])) _
          refine Goes.via (fun t k => XS.iload X0.here hx rfl (hb hby d3_8) rfl k) ?_
          show Goes p e below (s₁.setTop (mkF m 10 #[.val (.ref a1), .val (.int (0 : Int32)), .val (.int (20 : Int32)), .val (.int p4), .val (.int (16 : Int32)), .val (.int (15 : Int32)), .val (.int (16 : Int32)), .val (.int (12288 : Int32))] [(.int (16 : Int32))])) _
          refine Goes.via (fun t k => XS.iload X0.here hx rfl (hb hby d3_10) rfl k) ?_
          show Goes p e below (s₁.setTop (mkF m 12 #[.val (.ref a1), .val (.int (0 : Int32)), .val (.int (20 : Int32)), .val (.int p4), .val (.int (16 : Int32)), .val (.int (15 : Int32)), .val (.int (16 : Int32)), .val (.int (12288 : Int32))] [(.int (15 : Int32)), (.int (16 : Int32))])) _
          refine Goes.via (fun t k => XS.icmpYes X0.here hx rfl (pc0 := 12) (pc' := 66) rfl (hb hby d3_12) rfl (tlt (show (15 : Int32) < (16 : Int32) from (by decide))).2.2.1 (by decide) (by decide) k) ?_
          show Goes p e below (s₁.setTop (mkF m 66 #[.val (.ref a1), .val (.int (0 : Int32)), .val (.int (20 : Int32)), .val (.int p4), .val (.int (16 : Int32)), .val (.int (15 : Int32)), .val (.int (16 : Int32)), .val (.int (12288 : Int32))] [])) _
          refine Goes.via (fun t k => XS.iload X0.here hx rfl (hb hby d3_66) rfl k) ?_
          show Goes p e below (s₁.setTop (mkF m 68 #[.val (.ref a1), .val (.int (0 : Int32)), .val (.int (20 : Int32)), .val (.int p4), .val (.int (16 : Int32)), .val (.int (15 : Int32)), .val (.int (16 : Int32)), .val (.int (12288 : Int32))] [(.int (16 : Int32))])) _
          refine Goes.via (fun t k => XS.iconst X0.here hx rfl (hb hby d3_68) k) ?_
          show Goes p e below (s₁.setTop (mkF m 69 #[.val (.ref a1), .val (.int (0 : Int32)), .val (.int (20 : Int32)), .val (.int p4), .val (.int (16 : Int32)), .val (.int (15 : Int32)), .val (.int (16 : Int32)), .val (.int (12288 : Int32))] [(.int (1 : Int32)), (.int (16 : Int32))])) _
          refine Goes.via (fun t k => XS.iadd X0.here hx rfl (hb hby d3_69) rfl k) ?_
          show Goes p e below (s₁.setTop (mkF m 70 #[.val (.ref a1), .val (.int (0 : Int32)), .val (.int (20 : Int32)), .val (.int p4), .val (.int (16 : Int32)), .val (.int (15 : Int32)), .val (.int (16 : Int32)), .val (.int (12288 : Int32))] [(.int (17 : Int32))])) _
          refine Goes.via (fun t k => XS.ineg X0.here hx rfl (hb hby d3_70) rfl k) ?_
          show Goes p e below (s₁.setTop (mkF m 71 #[.val (.ref a1), .val (.int (0 : Int32)), .val (.int (20 : Int32)), .val (.int p4), .val (.int (16 : Int32)), .val (.int (15 : Int32)), .val (.int (16 : Int32)), .val (.int (12288 : Int32))] [(.int (-17 : Int32))])) _
          obtain ⟨fs, hr, hrun, hended, hW, hsame⟩ := X0.leave (v := some (.int (-17 : Int32))) (fun h => by rw [Bd.returns] at h; cases h)
          refine ⟨_, _, ?_, hrun, hended, _, _, rfl, ?_, ⟨_, rfl⟩, hW, hsame.mono (by decide) (by decide)⟩
          · exact retI X0 hx Bd.returns (hb hby d3_71) hr
          · show Q3 Z a1 p4 h0 n0 _ s₁.heap _
            rw [e0]
            exact ⟨congrArg some (congrArg _ (by simp only [f3, if_pos hc33_2, if_pos hc33_4, if_neg hc33_6, if_pos hc48_11])), N0, rfl⟩
        · refine Goes.via (fun t k => XS.icmpYes X0.here hx rfl (pc0 := 48) (pc' := 60) rfl (hb hby d3_48) rfl (flt hc48_11).2.2.2 (by decide) (by decide) k) ?_
          show Goes p e below (s₁.setTop (mkF m 60 #[.val (.ref a1), .val (.int (0 : Int32)), .val (.int (20 : Int32)), .val (.int p4), .val (.int (15 : Int32)), .val (.int (19 : Int32)), .val (.int (17 : Int32)), .val (.int (12288 : Int32))] [])) _
          refine Goes.via (fun t k => XS.iload X0.here hx rfl (hb hby d3_60) rfl k) ?_
          show Goes p e below (s₁.setTop (mkF m 62 #[.val (.ref a1), .val (.int (0 : Int32)), .val (.int (20 : Int32)), .val (.int p4), .val (.int (15 : Int32)), .val (.int (19 : Int32)), .val (.int (17 : Int32)), .val (.int (12288 : Int32))] [(.int (17 : Int32))])) _
          obtain ⟨fs, hr, hrun, hended, hW, hsame⟩ := X0.leave (v := some (.int (17 : Int32))) (fun h => by rw [Bd.returns] at h; cases h)
          refine ⟨_, _, ?_, hrun, hended, _, _, rfl, ?_, ⟨_, rfl⟩, hW, hsame.mono (by decide) (by decide)⟩
          · exact retI X0 hx Bd.returns (hb hby d3_62) hr
          · show Q3 Z a1 p4 h0 n0 _ s₁.heap _
            rw [e0]
            exact ⟨congrArg some (congrArg _ (by simp only [f3, if_pos hc33_2, if_pos hc33_4, if_neg hc33_6, if_neg hc48_11])), N0, rfl⟩
    · refine Goes.via (fun t k => XS.icmpYes X0.here hx rfl (pc0 := 33) (pc' := 45) rfl (hb hby d3_33) rfl (flt hc33_4).2.1 (by decide) (by decide) k) ?_
      show Goes p e below (s₁.setTop (mkF m 45 #[.val (.ref a1), .val (.int (0 : Int32)), .val (.int (20 : Int32)), .val (.int p4), .val (.int (10 : Int32)), .val (.int (19 : Int32)), .val (.int (14 : Int32)), .val (.int (8287 : Int32))] [])) _
      refine Goes.via (fun t k => XS.iload X0.here hx rfl (hb hby d3_45) rfl k) ?_
      show Goes p e below (s₁.setTop (mkF m 47 #[.val (.ref a1), .val (.int (0 : Int32)), .val (.int (20 : Int32)), .val (.int p4), .val (.int (10 : Int32)), .val (.int (19 : Int32)), .val (.int (14 : Int32)), .val (.int (8287 : Int32))] [(.int (8287 : Int32))])) _
      refine Goes.via (fun t k => XS.iloadN X0.here hx rfl (hb hby d3_47) rfl k) ?_
      show Goes p e below (s₁.setTop (mkF m 48 #[.val (.ref a1), .val (.int (0 : Int32)), .val (.int (20 : Int32)), .val (.int p4), .val (.int (10 : Int32)), .val (.int (19 : Int32)), .val (.int (14 : Int32)), .val (.int (8287 : Int32))] [(.int p4), (.int (8287 : Int32))])) _
      by_cases hc48_14 : p4 < (8287 : Int32)
      · refine Goes.via (fun t k => XS.icmpNo X0.here hx rfl (hb hby d3_48) rfl (tlt hc48_14).2.2.2 k) ?_
        show Goes p e below (s₁.setTop (mkF m 51 #[.val (.ref a1), .val (.int (0 : Int32)), .val (.int (20 : Int32)), .val (.int p4), .val (.int (10 : Int32)), .val (.int (19 : Int32)), .val (.int (14 : Int32)), .val (.int (8287 : Int32))] [])) _
        refine Goes.via (fun t k => XS.iload X0.here hx rfl (hb hby d3_51) rfl k) ?_
        show Goes p e below (s₁.setTop (mkF m 53 #[.val (.ref a1), .val (.int (0 : Int32)), .val (.int (20 : Int32)), .val (.int p4), .val (.int (10 : Int32)), .val (.int (19 : Int32)), .val (.int (14 : Int32)), .val (.int (8287 : Int32))] [(.int (14 : Int32))])) _
        refine Goes.via (fun t k => XS.iconst X0.here hx rfl (hb hby d3_53) k) ?_
        show Goes p e below (s₁.setTop (mkF m 54 #[.val (.ref a1), .val (.int (0 : Int32)), .val (.int (20 : Int32)), .val (.int p4), .val (.int (10 : Int32)), .val (.int (19 : Int32)), .val (.int (14 : Int32)), .val (.int (8287 : Int32))] [(.int (1 : Int32)), (.int (14 : Int32))])) _
        refine Goes.via (fun t k => XS.isub X0.here hx rfl (hb hby d3_54) rfl k) ?_
        show Goes p e below (s₁.setTop (mkF m 55 #[.val (.ref a1), .val (.int (0 : Int32)), .val (.int (20 : Int32)), .val (.int p4), .val (.int (10 : Int32)), .val (.int (19 : Int32)), .val (.int (14 : Int32)), .val (.int (8287 : Int32))] [(.int (13 : Int32))])) _
        refine Goes.via (fun t k => XS.istore X0.here hx rfl (hb hby d3_55) rfl (l' := #[.val (.ref a1), .val (.int (0 : Int32)), .val (.int (20 : Int32)), .val (.int p4), .val (.int (10 : Int32)), .val (.int (13 : Int32)), .val (.int (14 : Int32)), .val (.int (8287 : Int32))]) rfl k) ?_
        show Goes p e below (s₁.setTop (mkF m 57 #[.val (.ref a1), .val (.int (0 : Int32)), .val (.int (20 : Int32)), .val (.int p4), .val (.int (10 : Int32)), .val (.int (13 : Int32)), .val (.int (14 : Int32)), .val (.int (8287 : Int32))] [])) _
        refine Goes.via (fun t k => XS.goto X0.here hx rfl (pc0 := 57) (pc' := 63) rfl (hb hby d3_57) (by decide) (by decide) k) ?_
        show Goes p e below (s₁.setTop (mkF m 63 #[.val (.ref a1), .val (.int (0 : Int32)), .val (.int (20 : Int32)), .val (.int p4), .val (.int (10 : Int32)), .val (.int (13 : Int32)), .val (.int (14 : Int32)), .val (.int (8287 : Int32))] [])) _
        refine Goes.via (fun t k => XS.goto X0.here hx rfl (pc0 := 63) (pc' := 8) rfl (hb hby d3_63) (by decide) (by decide) k) ?_
        show Goes p e below (s₁.setTop (mkF m 8 #[.val (.ref a1), .val (.int (0 : Int32)), .val (.int (20 : Int32)), .val (.int p4), .val (.int (10 : Int32)), .val (.int (13 : Int32)), .val (.int (14 : Int32)), .val (.int (8287 : Int32))] [])) _
        refine Goes.via (fun t k => XS.iload X0.here hx rfl (hb hby d3_8) rfl k) ?_
        show Goes p e below (s₁.setTop (mkF m 10 #[.val (.ref a1), .val (.int (0 : Int32)), .val (.int (20 : Int32)), .val (.int p4), .val (.int (10 : Int32)), .val (.int (13 : Int32)), .val (.int (14 : Int32)), .val (.int (8287 : Int32))] [(.int (10 : Int32))])) _
        refine Goes.via (fun t k => XS.iload X0.here hx rfl (hb hby d3_10) rfl k) ?_
        show Goes p e below (s₁.setTop (mkF m 12 #[.val (.ref a1), .val (.int (0 : Int32)), .val (.int (20 : Int32)), .val (.int p4), .val (.int (10 : Int32)), .val (.int (13 : Int32)), .val (.int (14 : Int32)), .val (.int (8287 : Int32))] [(.int (13 : Int32)), (.int (10 : Int32))])) _
        refine Goes.via (fun t k => XS.icmpNo X0.here hx rfl (hb hby d3_12) rfl (flt (show ¬ ((13 : Int32) < (10 : Int32)) from (by decide))).2.2.1 k) ?_
        show Goes p e below (s₁.setTop (mkF m 15 #[.val (.ref a1), .val (.int (0 : Int32)), .val (.int (20 : Int32)), .val (.int p4), .val (.int (10 : Int32)), .val (.int (13 : Int32)), .val (.int (14 : Int32)), .val (.int (8287 : Int32))] [])) _
        refine Goes.via (fun t k => XS.iload X0.here hx rfl (hb hby d3_15) rfl k) ?_
        show Goes p e below (s₁.setTop (mkF m 17 #[.val (.ref a1), .val (.int (0 : Int32)), .val (.int (20 : Int32)), .val (.int p4), .val (.int (10 : Int32)), .val (.int (13 : Int32)), .val (.int (14 : Int32)), .val (.int (8287 : Int32))] [(.int (10 : Int32))])) _
        refine Goes.via (fun t k => XS.iload X0.here hx rfl (hb hby d3_17) rfl k) ?_
        show Goes p e below (s₁.setTop (mkF m 19 #[.val (.ref a1), .val (.int (0 : Int32)), .val (.int (20 : Int32)), .val (.int p4), .val (.int (10 : Int32)), .val (.int (13 : Int32)), .val (.int (14 : Int32)), .val (.int (8287 : Int32))] [(.int (13 : Int32)), (.int (10 : Int32))])) _
        refine Goes.via (fun t k => XS.iadd X0.here hx rfl (hb hby d3_19) rfl k) ?_
        show Goes p e below (s₁.setTop (mkF m 20 #[.val (.ref a1), .val (.int (0 : Int32)), .val (.int (20 : Int32)), .val (.int p4), .val (.int (10 : Int32)), .val (.int (13 : Int32)), .val (.int (14 : Int32)), .val (.int (8287 : Int32))] [(.int (23 : Int32))])) _
        refine Goes.via (fun t k => XS.iconst X0.here hx rfl (hb hby d3_20) k) ?_
        show Goes p e below (s₁.setTop (mkF m 21 #[.val (.ref a1), .val (.int (0 : Int32)), .val (.int (20 : Int32)), .val (.int p4), .val (.int (10 : Int32)), .val (.int (13 : Int32)), .val (.int (14 : Int32)), .val (.int (8287 : Int32))] [(.int (1 : Int32)), (.int (23 : Int32))])) _
        refine Goes.via (fun t k => XS.iushr X0.here hx rfl (hb hby d3_21) rfl k) ?_
        show Goes p e below (s₁.setTop (mkF m 22 #[.val (.ref a1), .val (.int (0 : Int32)), .val (.int (20 : Int32)), .val (.int p4), .val (.int (10 : Int32)), .val (.int (13 : Int32)), .val (.int (14 : Int32)), .val (.int (8287 : Int32))] [(.int (11 : Int32))])) _
        refine Goes.via (fun t k => XS.istore X0.here hx rfl (hb hby d3_22) rfl (l' := #[.val (.ref a1), .val (.int (0 : Int32)), .val (.int (20 : Int32)), .val (.int p4), .val (.int (10 : Int32)), .val (.int (13 : Int32)), .val (.int (11 : Int32)), .val (.int (8287 : Int32))]) rfl k) ?_
        show Goes p e below (s₁.setTop (mkF m 24 #[.val (.ref a1), .val (.int (0 : Int32)), .val (.int (20 : Int32)), .val (.int p4), .val (.int (10 : Int32)), .val (.int (13 : Int32)), .val (.int (11 : Int32)), .val (.int (8287 : Int32))] [])) _
        refine Goes.via (fun t k => XS.aloadN X0.here hx rfl (hb hby d3_24) rfl rfl k) ?_
        show Goes p e below (s₁.setTop (mkF m 25 #[.val (.ref a1), .val (.int (0 : Int32)), .val (.int (20 : Int32)), .val (.int p4), .val (.int (10 : Int32)), .val (.int (13 : Int32)), .val (.int (11 : Int32)), .val (.int (8287 : Int32))] [(.ref a1)])) _
        refine Goes.via (fun t k => XS.iload X0.here hx rfl (hb hby d3_25) rfl k) ?_
        show Goes p e below (s₁.setTop (mkF m 27 #[.val (.ref a1), .val (.int (0 : Int32)), .val (.int (20 : Int32)), .val (.int p4), .val (.int (10 : Int32)), .val (.int (13 : Int32)), .val (.int (11 : Int32)), .val (.int (8287 : Int32))] [(.int (11 : Int32)), (.ref a1)])) _
        obtain ⟨cl15, Ar15, qa15, Sa15, Na15, Ha15, Ga15⟩ := id V1
        have hin15 : ¬ ((11 : Int32) < 0 ∨ cl15.slots.size ≤ ((11 : Int32)).toNatClampNeg) := inb_of Sa15 ⟨by decide, by decide⟩
        have hat15 : cl15.slots[((11 : Int32)).toNatClampNeg]? = some (.int (8233 : Int32)) := Ha15.at hin15 rfl
        refine Goes.via (fun t k => X0.iaload hx (j := (11 : Int32)) (v := (.int (8233 : Int32))) (by rw [e0]; exact Ar15.1) (State.isArrayOf_alike hZ.alike Ar15.2.1) Ar15.2.2 hin15 hat15 (g := (mkF m 27 #[.val (.ref a1), .val (.int (0 : Int32)), .val (.int (20 : Int32)), .val (.int p4), .val (.int (10 : Int32)), .val (.int (13 : Int32)), .val (.int (11 : Int32)), .val (.int (8287 : Int32))] [(.int (11 : Int32)), (.ref a1)])) rfl rfl (hb hby d3_27) _ k) ?_
        show Goes p e below (s₁.setTop (mkF m 28 #[.val (.ref a1), .val (.int (0 : Int32)), .val (.int (20 : Int32)), .val (.int p4), .val (.int (10 : Int32)), .val (.int (13 : Int32)), .val (.int (11 : Int32)), .val (.int (8287 : Int32))] [(.int (8233 : Int32))])) _
        refine Goes.via (fun t k => XS.istore X0.here hx rfl (hb hby d3_28) rfl (l' := #[.val (.ref a1), .val (.int (0 : Int32)), .val (.int (20 : Int32)), .val (.int p4), .val (.int (10 : Int32)), .val (.int (13 : Int32)), .val (.int (11 : Int32)), .val (.int (8233 : Int32))]) rfl k) ?_
        show Goes p e below (s₁.setTop (mkF m 30 #[.val (.ref a1), .val (.int (0 : Int32)), .val (.int (20 : Int32)), .val (.int p4), .val (.int (10 : Int32)), .val (.int (13 : Int32)), .val (.int (11 : Int32)), .val (.int (8233 : Int32))] [])) _
        refine Goes.via (fun t k => XS.iload X0.here hx rfl (hb hby d3_30) rfl k) ?_
        show Goes p e below (s₁.setTop (mkF m 32 #[.val (.ref a1), .val (.int (0 : Int32)), .val (.int (20 : Int32)), .val (.int p4), .val (.int (10 : Int32)), .val (.int (13 : Int32)), .val (.int (11 : Int32)), .val (.int (8233 : Int32))] [(.int (8233 : Int32))])) _
        refine Goes.via (fun t k => XS.iloadN X0.here hx rfl (hb hby d3_32) rfl k) ?_
        show Goes p e below (s₁.setTop (mkF m 33 #[.val (.ref a1), .val (.int (0 : Int32)), .val (.int (20 : Int32)), .val (.int p4), .val (.int (10 : Int32)), .val (.int (13 : Int32)), .val (.int (11 : Int32)), .val (.int (8233 : Int32))] [(.int p4), (.int (8233 : Int32))])) _
        by_cases hc33_16 : (8233 : Int32) < p4
        · refine Goes.via (fun t k => XS.icmpNo X0.here hx rfl (hb hby d3_33) rfl (tlt hc33_16).2.1 k) ?_
          show Goes p e below (s₁.setTop (mkF m 36 #[.val (.ref a1), .val (.int (0 : Int32)), .val (.int (20 : Int32)), .val (.int p4), .val (.int (10 : Int32)), .val (.int (13 : Int32)), .val (.int (11 : Int32)), .val (.int (8233 : Int32))] [])) _
          refine Goes.via (fun t k => XS.iload X0.here hx rfl (hb hby d3_36) rfl k) ?_
          show Goes p e below (s₁.setTop (mkF m 38 #[.val (.ref a1), .val (.int (0 : Int32)), .val (.int (20 : Int32)), .val (.int p4), .val (.int (10 : Int32)), .val (.int (13 : Int32)), .val (.int (11 : Int32)), .val (.int (8233 : Int32))] [(.int (11 : Int32))])) _
          refine Goes.via (fun t k => XS.iconst X0.here hx rfl (hb hby d3_38) k) ?_
          show Goes p e below (s₁.setTop (mkF m 39 #[.val (.ref a1), .val (.int (0 : Int32)), .val (.int (20 : Int32)), .val (.int p4), .val (.int (10 : Int32)), .val (.int (13 : Int32)), .val (.int (11 : Int32)), .val (.int (8233 : Int32))] [(.int (1 : Int32)), (.int (11 : Int32))])) _
          refine Goes.via (fun t k => XS.iadd X0.here hx rfl (hb hby d3_39) rfl k) ?_
          show Goes p e below (s₁.setTop (mkF m 40 #[.val (.ref a1), .val (.int (0 : Int32)), .val (.int (20 : Int32)), .val (.int p4), .val (.int (10 : Int32)), .val (.int (13 : Int32)), .val (.int (11 : Int32)), .val (.int (8233 : Int32))] [(.int (12 : Int32))])) _
          refine Goes.via (fun t k => XS.istore X0.here hx rfl (hb hby d3_40) rfl (l' := #[.val (.ref a1), .val (.int (0 : Int32)), .val (.int (20 : Int32)), .val (.int p4), .val (.int (12 : Int32)), .val (.int (13 : Int32)), .val (.int (11 : Int32)), .val (.int (8233 : Int32))]) rfl k) ?_
          show Goes p e below (s₁.setTop (mkF m 42 #[.val (.ref a1), .val (.int (0 : Int32)), .val (.int (20 : Int32)), .val (.int p4), .val (.int (12 : Int32)), .val (.int (13 : Int32)), .val (.int (11 : Int32)), .val (.int (8233 : Int32))] [])) _
          refine Goes.via (fun t k => XS.goto X0.here hx rfl (pc0 := 42) (pc' := 63) rfl (hb hby d3_42) (by decide) (by decide) k) ?_
          show Goes p e below (s₁.setTop (mkF m 63 #[.val (.ref a1), .val (.int (0 : Int32)), .val (.int (20 : Int32)), .val (.int p4), .val (.int (12 : Int32)), .val (.int (13 : Int32)), .val (.int (11 : Int32)), .val (.int (8233 : Int32))] [])) _
          refine Goes.via (fun t k => XS.goto X0.here hx rfl (pc0 := 63) (pc' := 8) rfl (hb hby d3_63) (by decide) (by decide) k) ?_
          show Goes p e below (s₁.setTop (mkF m 8 #[.val (.ref a1), .val (.int (0 : Int32)), .val (.int (20 : Int32)), .val (.int p4), .val (.int (12 : Int32)), .val (.int (13 : Int32)), .val (.int (11 : Int32)), .val (.int (8233 : Int32))] [])) _
          refine Goes.via (fun t k => XS.iload X0.here hx rfl (hb hby d3_8) rfl k) ?_
          show Goes p e below (s₁.setTop (mkF m 10 #[.val (.ref a1), .val (.int (0 : Int32)), .val (.int (20 : Int32)), .val (.int p4), .val (.int (12 : Int32)), .val (.int (13 : Int32)), .val (.int (11 : Int32)), .val (.int (8233 : Int32))] [(.int (12 : Int32))])) _
          refine Goes.via (fun t k => XS.iload X0.here hx rfl (hb hby d3_10) rfl k) ?_
          show Goes p e below (s₁.setTop (mkF m 12 #[.val (.ref a1), .val (.int (0 : Int32)), .val (.int (20 : Int32)), .val (.int p4), .val (.int (12 : Int32)), .val (.int (13 : Int32)), .val (.int (11 : Int32)), .val (.int (8233 : Int32))] [(.int (13 : Int32)), (.int (12 : Int32))])) _
          refine Goes.via (fun t k => XS.icmpNo X0.here hx rfl (hb hby d3_12) rfl (flt (show ¬ ((13 : Int32) < (12 : Int32)) from (by decide))).2.2.1 k) ?_
          show Goes p e below (s₁.setTop (mkF m 15 #[.val (.ref a1), .val (.int (0 : Int32)), .val (.int (20 : Int32)), .val (.int p4), .val (.int (12 : Int32)), .val (.int (13 : Int32)), .val (.int (11 : Int32)), .val (.int (8233 : Int32))] [])) _
          refine Goes.via (fun t k => XS.iload X0.here hx rfl (hb hby d3_15) rfl k) ?_
          show Goes p e below (s₁.setTop (mkF m 17 #[.val (.ref a1), .val (.int (0 : Int32)), .val (.int (20 : Int32)), .val (.int p4), .val (.int (12 : Int32)), .val (.int (13 : Int32)), .val (.int (11 : Int32)), .val (.int (8233 : Int32))] [(.int (12 : Int32))])) _
          refine Goes.via (fun t k => XS.iload X0.here hx rfl (hb hby d3_17) rfl k) ?_
          show Goes p e below (s₁.setTop (mkF m 19 #[.val (.ref a1), .val (.int (0 : Int32)), .val (.int (20 : Int32)), .val (.int p4), .val (.int (12 : Int32)), .val (.int (13 : Int32)), .val (.int (11 : Int32)), .val (.int (8233 : Int32))] [(.int (13 : Int32)), (.int (12 : Int32))])) _
          refine Goes.via (fun t k => XS.iadd X0.here hx rfl (hb hby d3_19) rfl k) ?_
          show Goes p e below (s₁.setTop (mkF m 20 #[.val (.ref a1), .val (.int (0 : Int32)), .val (.int (20 : Int32)), .val (.int p4), .val (.int (12 : Int32)), .val (.int (13 : Int32)), .val (.int (11 : Int32)), .val (.int (8233 : Int32))] [(.int (25 : Int32))])) _
          refine Goes.via (fun t k => XS.iconst X0.here hx rfl (hb hby d3_20) k) ?_
          show Goes p e below (s₁.setTop (mkF m 21 #[.val (.ref a1), .val (.int (0 : Int32)), .val (.int (20 : Int32)), .val (.int p4), .val (.int (12 : Int32)), .val (.int (13 : Int32)), .val (.int (11 : Int32)), .val (.int (8233 : Int32))] [(.int (1 : Int32)), (.int (25 : Int32))])) _
          refine Goes.via (fun t k => XS.iushr X0.here hx rfl (hb hby d3_21) rfl k) ?_
          show Goes p e below (s₁.setTop (mkF m 22 #[.val (.ref a1), .val (.int (0 : Int32)), .val (.int (20 : Int32)), .val (.int p4), .val (.int (12 : Int32)), .val (.int (13 : Int32)), .val (.int (11 : Int32)), .val (.int (8233 : Int32))] [(.int (12 : Int32))])) _
          refine Goes.via (fun t k => XS.istore X0.here hx rfl (hb hby d3_22) rfl (l' := #[.val (.ref a1), .val (.int (0 : Int32)), .val (.int (20 : Int32)), .val (.int p4), .val (.int (12 : Int32)), .val (.int (13 : Int32)), .val (.int (12 : Int32)), .val (.int (8233 : Int32))]) rfl k) ?_
          show Goes p e below (s₁.setTop (mkF m 24 #[.val (.ref a1), .val (.int (0 : Int32)), .val (.int (20 : Int32)), .val (.int p4), .val (.int (12 : Int32)), .val (.int (13 : Int32)), .val (.int (12 : Int32)), .val (.int (8233 : Int32))] [])) _
          refine Goes.via (fun t k => XS.aloadN X0.here hx rfl (hb hby d3_24) rfl rfl k) ?_
          show Goes p e below (s₁.setTop (mkF m 25 #[.val (.ref a1), .val (.int (0 : Int32)), .val (.int (20 : Int32)), .val (.int p4), .val (.int (12 : Int32)), .val (.int (13 : Int32)), .val (.int (12 : Int32)), .val (.int (8233 : Int32))] [(.ref a1)])) _
          refine Goes.via (fun t k => XS.iload X0.here hx rfl (hb hby d3_25) rfl k) ?_
          show Goes p e below (s₁.setTop (mkF m 27 #[.val (.ref a1), .val (.int (0 : Int32)), .val (.int (20 : Int32)), .val (.int p4), .val (.int (12 : Int32)), .val (.int (13 : Int32)), .val (.int (12 : Int32)), .val (.int (8233 : Int32))] [(.int (12 : Int32)), (.ref a1)])) _
          obtain ⟨cl17, Ar17, qa17, Sa17, Na17, Ha17, Ga17⟩ := id V1
          have hin17 : ¬ ((12 : Int32) < 0 ∨ cl17.slots.size ≤ ((12 : Int32)).toNatClampNeg) := inb_of Sa17 ⟨by decide, by decide⟩
          have hat17 : cl17.slots[((12 : Int32)).toNatClampNeg]? = some (.int (8239 : Int32)) := Ha17.at hin17 rfl
          refine Goes.via (fun t k => X0.iaload hx (j := (12 : Int32)) (v := (.int (8239 : Int32))) (by rw [e0]; exact Ar17.1) (State.isArrayOf_alike hZ.alike Ar17.2.1) Ar17.2.2 hin17 hat17 (g := (mkF m 27 #[.val (.ref a1), .val (.int (0 : Int32)), .val (.int (20 : Int32)), .val (.int p4), .val (.int (12 : Int32)), .val (.int (13 : Int32)), .val (.int (12 : Int32)), .val (.int (8233 : Int32))] [(.int (12 : Int32)), (.ref a1)])) rfl rfl (hb hby d3_27) _ k) ?_
          show Goes p e below (s₁.setTop (mkF m 28 #[.val (.ref a1), .val (.int (0 : Int32)), .val (.int (20 : Int32)), .val (.int p4), .val (.int (12 : Int32)), .val (.int (13 : Int32)), .val (.int (12 : Int32)), .val (.int (8233 : Int32))] [(.int (8239 : Int32))])) _
          refine Goes.via (fun t k => XS.istore X0.here hx rfl (hb hby d3_28) rfl (l' := #[.val (.ref a1), .val (.int (0 : Int32)), .val (.int (20 : Int32)), .val (.int p4), .val (.int (12 : Int32)), .val (.int (13 : Int32)), .val (.int (12 : Int32)), .val (.int (8239 : Int32))]) rfl k) ?_
          show Goes p e below (s₁.setTop (mkF m 30 #[.val (.ref a1), .val (.int (0 : Int32)), .val (.int (20 : Int32)), .val (.int p4), .val (.int (12 : Int32)), .val (.int (13 : Int32)), .val (.int (12 : Int32)), .val (.int (8239 : Int32))] [])) _
          refine Goes.via (fun t k => XS.iload X0.here hx rfl (hb hby d3_30) rfl k) ?_
          show Goes p e below (s₁.setTop (mkF m 32 #[.val (.ref a1), .val (.int (0 : Int32)), .val (.int (20 : Int32)), .val (.int p4), .val (.int (12 : Int32)), .val (.int (13 : Int32)), .val (.int (12 : Int32)), .val (.int (8239 : Int32))] [(.int (8239 : Int32))])) _
          refine Goes.via (fun t k => XS.iloadN X0.here hx rfl (hb hby d3_32) rfl k) ?_
          show Goes p e below (s₁.setTop (mkF m 33 #[.val (.ref a1), .val (.int (0 : Int32)), .val (.int (20 : Int32)), .val (.int p4), .val (.int (12 : Int32)), .val (.int (13 : Int32)), .val (.int (12 : Int32)), .val (.int (8239 : Int32))] [(.int p4), (.int (8239 : Int32))])) _
          by_cases hc33_18 : (8239 : Int32) < p4
          · refine Goes.via (fun t k => XS.icmpNo X0.here hx rfl (hb hby d3_33) rfl (tlt hc33_18).2.1 k) ?_
            show Goes p e below (s₁.setTop (mkF m 36 #[.val (.ref a1), .val (.int (0 : Int32)), .val (.int (20 : Int32)), .val (.int p4), .val (.int (12 : Int32)), .val (.int (13 : Int32)), .val (.int (12 : Int32)), .val (.int (8239 : Int32))] [])) _
            refine Goes.via (fun t k => XS.iload X0.here hx rfl (hb hby d3_36) rfl k) ?_
            show Goes p e below (s₁.setTop (mkF m 38 #[.val (.ref a1), .val (.int (0 : Int32)), .val (.int (20 : Int32)), .val (.int p4), .val (.int (12 : Int32)), .val (.int (13 : Int32)), .val (.int (12 : Int32)), .val (.int (8239 : Int32))] [(.int (12 : Int32))])) _
            refine Goes.via (fun t k => XS.iconst X0.here hx rfl (hb hby d3_38) k) ?_
            show Goes p e below (s₁.setTop (mkF m 39 #[.val (.ref a1), .val (.int (0 : Int32)), .val (.int (20 : Int32)), .val (.int p4), .val (.int (12 : Int32)), .val (.int (13 : Int32)), .val (.int (12 : Int32)), .val (.int (8239 : Int32))] [(.int (1 : Int32)), (.int (12 : Int32))])) _
            refine Goes.via (fun t k => XS.iadd X0.here hx rfl (hb hby d3_39) rfl k) ?_
            show Goes p e below (s₁.setTop (mkF m 40 #[.val (.ref a1), .val (.int (0 : Int32)), .val (.int (20 : Int32)), .val (.int p4), .val (.int (12 : Int32)), .val (.int (13 : Int32)), .val (.int (12 : Int32)), .val (.int (8239 : Int32))] [(.int (13 : Int32))])) _
            refine Goes.via (fun t k => XS.istore X0.here hx rfl (hb hby d3_40) rfl (l' := #[.val (.ref a1), .val (.int (0 : Int32)), .val (.int (20 : Int32)), .val (.int p4), .val (.int (13 : Int32)), .val (.int (13 : Int32)), .val (.int (12 : Int32)), .val (.int (8239 : Int32))]) rfl k) ?_
            show Goes p e below (s₁.setTop (mkF m 42 #[.val (.ref a1), .val (.int (0 : Int32)), .val (.int (20 : Int32)), .val (.int p4), .val (.int (13 : Int32)), .val (.int (13 : Int32)), .val (.int (12 : Int32)), .val (.int (8239 : Int32))] [])) _
            refine Goes.via (fun t k => XS.goto X0.here hx rfl (pc0 := 42) (pc' := 63) rfl (hb hby d3_42) (by decide) (by decide) k) ?_
            show Goes p e below (s₁.setTop (mkF m 63 #[.val (.ref a1), .val (.int (0 : Int32)), .val (.int (20 : Int32)), .val (.int p4), .val (.int (13 : Int32)), .val (.int (13 : Int32)), .val (.int (12 : Int32)), .val (.int (8239 : Int32))] [])) _
            refine Goes.via (fun t k => XS.goto X0.here hx rfl (pc0 := 63) (pc' := 8) rfl (hb hby d3_63) (by decide) (by decide) k) ?_
            show Goes p e below (s₁.setTop (mkF m 8 #[.val (.ref a1), .val (.int (0 : Int32)), .val (.int (20 : Int32)), .val (.int p4), .val (.int (13 : Int32)), .val (.int (13 : Int32)), .val (.int (12 : Int32)), .val (.int (8239 : Int32))] [])) _
            refine Goes.via (fun t k => XS.iload X0.here hx rfl (hb hby d3_8) rfl k) ?_
            show Goes p e below (s₁.setTop (mkF m 10 #[.val (.ref a1), .val (.int (0 : Int32)), .val (.int (20 : Int32)), .val (.int p4), .val (.int (13 : Int32)), .val (.int (13 : Int32)), .val (.int (12 : Int32)), .val (.int (8239 : Int32))] [(.int (13 : Int32))])) _
            refine Goes.via (fun t k => XS.iload X0.here hx rfl (hb hby d3_10) rfl k) ?_
            show Goes p e below (s₁.setTop (mkF m 12 #[.val (.ref a1), .val (.int (0 : Int32)), .val (.int (20 : Int32)), .val (.int p4), .val (.int (13 : Int32)), .val (.int (13 : Int32)), .val (.int (12 : Int32)), .val (.int (8239 : Int32))] [(.int (13 : Int32)), (.int (13 : Int32))])) _
            refine Goes.via (fun t k => XS.icmpNo X0.here hx rfl (hb hby d3_12) rfl (flt (show ¬ ((13 : Int32) < (13 : Int32)) from (by decide))).2.2.1 k) ?_
            show Goes p e below (s₁.setTop (mkF m 15 #[.val (.ref a1), .val (.int (0 : Int32)), .val (.int (20 : Int32)), .val (.int p4), .val (.int (13 : Int32)), .val (.int (13 : Int32)), .val (.int (12 : Int32)), .val (.int (8239 : Int32))] [])) _
            refine Goes.via (fun t k => XS.iload X0.here hx rfl (hb hby d3_15) rfl k) ?_
            show Goes p e below (s₁.setTop (mkF m 17 #[.val (.ref a1), .val (.int (0 : Int32)), .val (.int (20 : Int32)), .val (.int p4), .val (.int (13 : Int32)), .val (.int (13 : Int32)), .val (.int (12 : Int32)), .val (.int (8239 : Int32))] [(.int (13 : Int32))])) _
            refine Goes.via (fun t k => XS.iload X0.here hx rfl (hb hby d3_17) rfl k) ?_
            show Goes p e below (s₁.setTop (mkF m 19 #[.val (.ref a1), .val (.int (0 : Int32)), .val (.int (20 : Int32)), .val (.int p4), .val (.int (13 : Int32)), .val (.int (13 : Int32)), .val (.int (12 : Int32)), .val (.int (8239 : Int32))] [(.int (13 : Int32)), (.int (13 : Int32))])) _
            refine Goes.via (fun t k => XS.iadd X0.here hx rfl (hb hby d3_19) rfl k) ?_
            show Goes p e below (s₁.setTop (mkF m 20 #[.val (.ref a1), .val (.int (0 : Int32)), .val (.int (20 : Int32)), .val (.int p4), .val (.int (13 : Int32)), .val (.int (13 : Int32)), .val (.int (12 : Int32)), .val (.int (8239 : Int32))] [(.int (26 : Int32))])) _
            refine Goes.via (fun t k => XS.iconst X0.here hx rfl (hb hby d3_20) k) ?_
            show Goes p e below (s₁.setTop (mkF m 21 #[.val (.ref a1), .val (.int (0 : Int32)), .val (.int (20 : Int32)), .val (.int p4), .val (.int (13 : Int32)), .val (.int (13 : Int32)), .val (.int (12 : Int32)), .val (.int (8239 : Int32))] [(.int (1 : Int32)), (.int (26 : Int32))])) _
            refine Goes.via (fun t k => XS.iushr X0.here hx rfl (hb hby d3_21) rfl k) ?_
            show Goes p e below (s₁.setTop (mkF m 22 #[.val (.ref a1), .val (.int (0 : Int32)), .val (.int (20 : Int32)), .val (.int p4), .val (.int (13 : Int32)), .val (.int (13 : Int32)), .val (.int (12 : Int32)), .val (.int (8239 : Int32))] [(.int (13 : Int32))])) _
            refine Goes.via (fun t k => XS.istore X0.here hx rfl (hb hby d3_22) rfl (l' := #[.val (.ref a1), .val (.int (0 : Int32)), .val (.int (20 : Int32)), .val (.int p4), .val (.int (13 : Int32)), .val (.int (13 : Int32)), .val (.int (13 : Int32)), .val (.int (8239 : Int32))]) rfl k) ?_
            show Goes p e below (s₁.setTop (mkF m 24 #[.val (.ref a1), .val (.int (0 : Int32)), .val (.int (20 : Int32)), .val (.int p4), .val (.int (13 : Int32)), .val (.int (13 : Int32)), .val (.int (13 : Int32)), .val (.int (8239 : Int32))] [])) _
            refine Goes.via (fun t k => XS.aloadN X0.here hx rfl (hb hby d3_24) rfl rfl k) ?_
            show Goes p e below (s₁.setTop (mkF m 25 #[.val (.ref a1), .val (.int (0 : Int32)), .val (.int (20 : Int32)), .val (.int p4), .val (.int (13 : Int32)), .val (.int (13 : Int32)), .val (.int (13 : Int32)), .val (.int (8239 : Int32))] [(.ref a1)])) _
            refine Goes.via (fun t k => XS.iload X0.here hx rfl (hb hby d3_25) rfl k) ?_
            show Goes p e below (s₁.setTop (mkF m 27 #[.val (.ref a1), .val (.int (0 : Int32)), .val (.int (20 : Int32)), .val (.int p4), .val (.int (13 : Int32)), .val (.int (13 : Int32)), .val (.int (13 : Int32)), .val (.int (8239 : Int32))] [(.int (13 : Int32)), (.ref a1)])) _
            obtain ⟨cl19, Ar19, qa19, Sa19, Na19, Ha19, Ga19⟩ := id V1
            have hin19 : ¬ ((13 : Int32) < 0 ∨ cl19.slots.size ≤ ((13 : Int32)).toNatClampNeg) := inb_of Sa19 ⟨by decide, by decide⟩
            have hat19 : cl19.slots[((13 : Int32)).toNatClampNeg]? = some (.int (8239 : Int32)) := Ha19.at hin19 rfl
            refine Goes.via (fun t k => X0.iaload hx (j := (13 : Int32)) (v := (.int (8239 : Int32))) (by rw [e0]; exact Ar19.1) (State.isArrayOf_alike hZ.alike Ar19.2.1) Ar19.2.2 hin19 hat19 (g := (mkF m 27 #[.val (.ref a1), .val (.int (0 : Int32)), .val (.int (20 : Int32)), .val (.int p4), .val (.int (13 : Int32)), .val (.int (13 : Int32)), .val (.int (13 : Int32)), .val (.int (8239 : Int32))] [(.int (13 : Int32)), (.ref a1)])) rfl rfl (hb hby d3_27) _ k) ?_
            show Goes p e below (s₁.setTop (mkF m 28 #[.val (.ref a1), .val (.int (0 : Int32)), .val (.int (20 : Int32)), .val (.int p4), .val (.int (13 : Int32)), .val (.int (13 : Int32)), .val (.int (13 : Int32)), .val (.int (8239 : Int32))] [(.int (8239 : Int32))])) _
            refine Goes.via (fun t k => XS.istore X0.here hx rfl (hb hby d3_28) rfl (l' := #[.val (.ref a1), .val (.int (0 : Int32)), .val (.int (20 : Int32)), .val (.int p4), .val (.int (13 : Int32)), .val (.int (13 : Int32)), .val (.int (13 : Int32)), .val (.int (8239 : Int32))]) rfl k) ?_
            show Goes p e below (s₁.setTop (mkF m 30 #[.val (.ref a1), .val (.int (0 : Int32)), .val (.int (20 : Int32)), .val (.int p4), .val (.int (13 : Int32)), .val (.int (13 : Int32)), .val (.int (13 : Int32)), .val (.int (8239 : Int32))] [])) _
            refine Goes.via (fun t k => XS.iload X0.here hx rfl (hb hby d3_30) rfl k) ?_
            show Goes p e below (s₁.setTop (mkF m 32 #[.val (.ref a1), .val (.int (0 : Int32)), .val (.int (20 : Int32)), .val (.int p4), .val (.int (13 : Int32)), .val (.int (13 : Int32)), .val (.int (13 : Int32)), .val (.int (8239 : Int32))] [(.int (8239 : Int32))])) _
            refine Goes.via (fun t k => XS.iloadN X0.here hx rfl (hb hby d3_32) rfl k) ?_
            show Goes p e below (s₁.setTop (mkF m 33 #[.val (.ref a1), .val (.int (0 : Int32)), .val (.int (20 : Int32)), .val (.int p4), .val (.int (13 : Int32)), .val (.int (13 : Int32)), .val (.int (13 : Int32)), .val (.int (8239 : Int32))] [(.int p4), (.int (8239 : Int32))])) _
            refine Goes.via (fun t k => XS.icmpNo X0.here hx rfl (hb hby d3_33) rfl (tlt hc33_18).2.1 k) ?_
            show Goes p e below (s₁.setTop (mkF m 36 #[.val (.ref a1), .val (.int (0 : Int32)), .val (.int (20 : Int32)), .val (.int p4), .val (.int (13 : Int32)), .val (.int (13 : Int32)), .val (.int (13 : Int32)), .val (.int (8239 : Int32))] [])) _
            refine Goes.via (fun t k => XS.iload X0.here hx rfl (hb hby d3_36) rfl k) ?_
            show Goes p e below (s₁.setTop (mkF m 38 #[.val (.ref a1), .val (.int (0 : Int32)), .val (.int (20 : Int32)), .val (.int p4), .val (.int (13 : Int32)), .val (.int (13 : Int32)), .val (.int (13 : Int32)), .val (.int (8239 : Int32))] [(.int (13 : Int32))])) _
            refine Goes.via (fun t k => XS.iconst X0.here hx rfl (hb hby d3_38) k) ?_
            show Goes p e below (s₁.setTop (mkF m 39 #[.val (.ref a1), .val (.int (0 : Int32)), .val (.int (20 : Int32)), .val (.int p4), .val (.int (13 : Int32)), .val (.int (13 : Int32)), .val (.int (13 : Int32)), .val (.int (8239 : Int32))] [(.int (1 : Int32)), (.int (13 : Int32))])) _
            refine Goes.via (fun t k => XS.iadd X0.here hx rfl (hb hby d3_39) rfl k) ?_
            show Goes p e below (s₁.setTop (mkF m 40 #[.val (.ref a1), .val (.int (0 : Int32)), .val (.int (20 : Int32)), .val (.int p4), .val (.int (13 : Int32)), .val (.int (13 : Int32)), .val (.int (13 : Int32)), .val (.int (8239 : Int32))] [(.int (14 : Int32))])) _
            refine Goes.via (fun t k => XS.istore X0.here hx rfl (hb hby d3_40) rfl (l' := #[.val (.ref a1), .val (.int (0 : Int32)), .val (.int (20 : Int32)), .val (.int p4), .val (.int (14 : Int32)), .val (.int (13 : Int32)), .val (.int (13 : Int32)), .val (.int (8239 : Int32))]) rfl k) ?_
            show Goes p e below (s₁.setTop (mkF m 42 #[.val (.ref a1), .val (.int (0 : Int32)), .val (.int (20 : Int32)), .val (.int p4), .val (.int (14 : Int32)), .val (.int (13 : Int32)), .val (.int (13 : Int32)), .val (.int (8239 : Int32))] [])) _
            refine Goes.via (fun t k => XS.goto X0.here hx rfl (pc0 := 42) (pc' := 63) rfl (hb hby d3_42) (by decide) (by decide) k) ?_
            show Goes p e below (s₁.setTop (mkF m 63 #[.val (.ref a1), .val (.int (0 : Int32)), .val (.int (20 : Int32)), .val (.int p4), .val (.int (14 : Int32)), .val (.int (13 : Int32)), .val (.int (13 : Int32)), .val (.int (8239 : Int32))] [])) _
            refine Goes.via (fun t k => XS.goto X0.here hx rfl (pc0 := 63) (pc' := 8) rfl (hb hby d3_63) (by decide) (by decide) k) ?_
            show Goes p e below (s₁.setTop (mkF m 8 #[.val (.ref a1), .val (.int (0 : Int32)), .val (.int (20 : Int32)), .val (.int p4), .val (.int (14 : Int32)), .val (.int (13 : Int32)), .val (.int (13 : Int32)), .val (.int (8239 : Int32))] [])) _
            refine Goes.via (fun t k => XS.iload X0.here hx rfl (hb hby d3_8) rfl k) ?_
            show Goes p e below (s₁.setTop (mkF m 10 #[.val (.ref a1), .val (.int (0 : Int32)), .val (.int (20 : Int32)), .val (.int p4), .val (.int (14 : Int32)), .val (.int (13 : Int32)), .val (.int (13 : Int32)), .val (.int (8239 : Int32))] [(.int (14 : Int32))])) _
            refine Goes.via (fun t k => XS.iload X0.here hx rfl (hb hby d3_10) rfl k) ?_
            show Goes p e below (s₁.setTop (mkF m 12 #[.val (.ref a1), .val (.int (0 : Int32)), .val (.int (20 : Int32)), .val (.int p4), .val (.int (14 : Int32)), .val (.int (13 : Int32)), .val (.int (13 : Int32)), .val (.int (8239 : Int32))] [(.int (13 : Int32)), (.int (14 : Int32))])) _
            refine Goes.via (fun t k => XS.icmpYes X0.here hx rfl (pc0 := 12) (pc' := 66) rfl (hb hby d3_12) rfl (tlt (show (13 : Int32) < (14 : Int32) from (by decide))).2.2.1 (by decide) (by decide) k) ?_
            show Goes p e below (s₁.setTop (mkF m 66 #[.val (.ref a1), .val (.int (0 : Int32)), .val (.int (20 : Int32)), .val (.int p4), .val (.int (14 : Int32)), .val (.int (13 : Int32)), .val (.int (13 : Int32)), .val (.int (8239 : Int32))] [])) _
            refine Goes.via (fun t k => XS.iload X0.here hx rfl (hb hby d3_66) rfl k) ?_
            show Goes p e below (s₁.setTop (mkF m 68 #[.val (.ref a1), .val (.int (0 : Int32)), .val (.int (20 : Int32)), .val (.int p4), .val (.int (14 : Int32)), .val (.int (13 : Int32)), .val (.int (13 : Int32)), .val (.int (8239 : Int32))] [(.int (14 : Int32))])) _
            refine Goes.via (fun t k => XS.iconst X0.here hx rfl (hb hby d3_68) k) ?_
            show Goes p e below (s₁.setTop (mkF m 69 #[.val (.ref a1), .val (.int (0 : Int32)), .val (.int (20 : Int32)), .val (.int p4), .val (.int (14 : Int32)), .val (.int (13 : Int32)), .val (.int (13 : Int32)), .val (.int (8239 : Int32))] [(.int (1 : Int32)), (.int (14 : Int32))])) _
            refine Goes.via (fun t k => XS.iadd X0.here hx rfl (hb hby d3_69) rfl k) ?_
            show Goes p e below (s₁.setTop (mkF m 70 #[.val (.ref a1), .val (.int (0 : Int32)), .val (.int (20 : Int32)), .val (.int p4), .val (.int (14 : Int32)), .val (.int (13 : Int32)), .val (.int (13 : Int32)), .val (.int (8239 : Int32))] [(.int (15 : Int32))])) _
            refine Goes.via (fun t k => XS.ineg X0.here hx rfl (hb hby d3_70) rfl k) ?_
            show Goes p e below (s₁.setTop (mkF m 71 #[.val (.ref a1), .val (.int (0 : Int32)), .val (.int (20 : Int32)), .val (.int p4), .val (.int (14 : Int32)), .val (.int (13 : Int32)), .val (.int (13 : Int32)), .val (.int (8239 : Int32))] [(.int (-15 : Int32))])) _
            obtain ⟨fs, hr, hrun, hended, hW, hsame⟩ := X0.leave (v := some (.int (-15 : Int32))) (fun h => by rw [Bd.returns] at h; cases h)
            refine ⟨_, _, ?_, hrun, hended, _, _, rfl, ?_, ⟨_, rfl⟩, hW, hsame.mono (by decide) (by decide)⟩
            · exact retI X0 hx Bd.returns (hb hby d3_71) hr
            · show Q3 Z a1 p4 h0 n0 _ s₁.heap _
              rw [e0]
              exact ⟨congrArg some (congrArg _ (by simp only [f3, if_pos hc33_2, if_neg hc33_4, if_pos hc48_14, if_pos hc33_16, if_pos hc33_18])), N0, rfl⟩
          · refine Goes.via (fun t k => XS.icmpYes X0.here hx rfl (pc0 := 33) (pc' := 45) rfl (hb hby d3_33) rfl (flt hc33_18).2.1 (by decide) (by decide) k) ?_
            show Goes p e below (s₁.setTop (mkF m 45 #[.val (.ref a1), .val (.int (0 : Int32)), .val (.int (20 : Int32)), .val (.int p4), .val (.int (12 : Int32)), .val (.int (13 : Int32)), .val (.int (12 : Int32)), .val (.int (8239 : Int32))] [])) _
            refine Goes.via (fun t k => XS.iload X0.here hx rfl (hb hby d3_45) rfl k) ?_
            show Goes p e below (s₁.setTop (mkF m 47 #[.val (.ref a1), .val (.int (0 : Int32)), .val (.int (20 : Int32)), .val (.int p4), .val (.int (12 : Int32)), .val (.int (13 : Int32)), .val (.int (12 : Int32)), .val (.int (8239 : Int32))] [(.int (8239 : Int32))])) _
            refine Goes.via (fun t k => XS.iloadN X0.here hx rfl (hb hby d3_47) rfl k) ?_
            show Goes p e below (s₁.setTop (mkF m 48 #[.val (.ref a1), .val (.int (0 : Int32)), .val (.int (20 : Int32)), .val (.int p4), .val (.int (12 : Int32)), .val (.int (13 : Int32)), .val (.int (12 : Int32)), .val (.int (8239 : Int32))] [(.int p4), (.int (8239 : Int32))])) _
            by_cases hc48_20 : p4 < (8239 : Int32)
            · refine Goes.via (fun t k => XS.icmpNo X0.here hx rfl (hb hby d3_48) rfl (tlt hc48_20).2.2.2 k) ?_
              show Goes p e below (s₁.setTop (mkF m 51 #[.val (.ref a1), .val (.int (0 : Int32)), .val (.int (20 : Int32)), .val (.int p4), .val (.int (12 : Int32)), .val (.int (13 : Int32)), .val (.int (12 : Int32)), .val (.int (8239 : Int32))] [])) _
              refine Goes.via (fun t k => XS.iload X0.here hx rfl (hb hby d3_51) rfl k) ?_
              show Goes p e below (s₁.setTop (mkF m 53 #[.val (.ref a1), .val (.int (0 : Int32)), .val (.int (20 : Int32)), .val (.int p4), .val (.int (12 : Int32)), .val (.int (13 : Int32)), .val (.int (12 : Int32)), .val (.int (8239 : Int32))] [(.int (12 : Int32))])) _
              refine Goes.via (fun t k => XS.iconst X0.here hx rfl (hb hby d3_53) k) ?_
              show Goes p e below (s₁.setTop (mkF m 54 #[.val (.ref a1), .val (.int (0 : Int32)), .val (.int (20 : Int32)), .val (.int p4), .val (.int (12 : Int32)), .val (.int (13 : Int32)), .val (.int (12 : Int32)), .val (.int (8239 : Int32))] [(.int (1 : Int32)), (.int (12 : Int32))])) _
              refine Goes.via (fun t k => XS.isub X0.here hx rfl (hb hby d3_54) rfl k) ?_
              show Goes p e below (s₁.setTop (mkF m 55 #[.val (.ref a1), .val (.int (0 : Int32)), .val (.int (20 : Int32)), .val (.int p4), .val (.int (12 : Int32)), .val (.int (13 : Int32)), .val (.int (12 : Int32)), .val (.int (8239 : Int32))] [(.int (11 : Int32))])) _
              refine Goes.via (fun t k => XS.istore X0.here hx rfl (hb hby d3_55) rfl (l' := #[.val (.ref a1), .val (.int (0 : Int32)), .val (.int (20 : Int32)), .val (.int p4), .val (.int (12 : Int32)), .val (.int (11 : Int32)), .val (.int (12 : Int32)), .val (.int (8239 : Int32))]) rfl k) ?_
              show Goes p e below (s₁.setTop (mkF m 57 #[.val (.ref a1), .val (.int (0 : Int32)), .val (.int (20 : Int32)), .val (.int p4), .val (.int (12 : Int32)), .val (.int (11 : Int32)), .val (.int (12 : Int32)), .val (.int (8239 : Int32))] [])) _
              refine Goes.via (fun t k => XS.goto X0.here hx rfl (pc0 := 57) (pc' := 63) rfl (hb hby d3_57) (by decide) (by decide) k) ?_
              show Goes p e below (s₁.setTop (mkF m 63 #[.val (.ref a1), .val (.int (0 : Int32)), .val (.int (20 : Int32)), .val (.int p4), .val (.int (12 : Int32)), .val (.int (11 : Int32)), .val (.int (12 : Int32)), .val (.int (8239 : Int32))] [])) _
              refine Goes.via (fun t k => XS.goto X0.here hx rfl (pc0 := 63) (pc' := 8) rfl (hb hby d3_63) (by decide) (by decide) k) ?_
              show Goes p e below (s₁.setTop (mkF m 8 #[.val (.ref a1), .val (.int (0 : Int32)), .val (.int (20 : Int32)), .val (.int p4), .val (.int (12 : Int32)), .val (.int (11 : Int32)), .val (.int (12 : Int32)), .val (.int (8239 : Int32))] [])) _
              refine Goes.via (fun t k => XS.iload X0.here hx rfl (hb hby d3_8) rfl k) ?_
              show Goes p e below (s₁.setTop (mkF m 10 #[.val (.ref a1), .val (.int (0 : Int32)), .val (.int (20 : Int32)), .val (.int p4), .val (.int (12 : Int32)), .val (.int (11 : Int32)), .val (.int (12 : Int32)), .val (.int (8239 : Int32))] [(.int (12 : Int32))])) _
              refine Goes.via (fun t k => XS.iload X0.here hx rfl (hb hby d3_10) rfl k) ?_
              show Goes p e below (s₁.setTop (mkF m 12 #[.val (.ref a1), .val (.int (0 : Int32)), .val (.int (20 : Int32)), .val (.int p4), .val (.int (12 : Int32)), .val (.int (11 : Int32)), .val (.int (12 : Int32)), .val (.int (8239 : Int32))] [(.int (11 : Int32)), (.int (12 : Int32))])) _
              refine Goes.via (fun t k => XS.icmpYes X0.here hx rfl (pc0 := 12) (pc' := 66) rfl (hb hby d3_12) rfl (tlt (show (11 : Int32) < (12 : Int32) from (by decide))).2.2.1 (by decide) (by decide) k) ?_
              show Goes p e below (s₁.setTop (mkF m 66 #[.val (.ref a1), .val (.int (0 : Int32)), .val (.int (20 : Int32)), .val (.int p4), .val (.int (12 : Int32)), .val (.int (11 : Int32)), .val (.int (12 : Int32)), .val (.int (8239 : Int32))] [])) _
              refine Goes.via (fun t k => XS.iload X0.here hx rfl (hb hby d3_66) rfl k) ?_
              show Goes p e below (s₁.setTop (mkF m 68 #[.val (.ref a1), .val (.int (0 : Int32)), .val (.int (20 : Int32)), .val (.int p4), .val (.int (12 : Int32)), .val (.int (11 : Int32)), .val (.int (12 : Int32)), .val (.int (8239 : Int32))] [(.int (12 : Int32))])) _
              refine Goes.via (fun t k => XS.iconst X0.here hx rfl (hb hby d3_68) k) ?_
              show Goes p e below (s₁.setTop (mkF m 69 #[.val (.ref a1), .val (.int (0 : Int32)), .val (.int (20 : Int32)), .val (.int p4), .val (.int (12 : Int32)), .val (.int (11 : Int32)), .val (.int (12 : Int32)), .val (.int (8239 : Int32))] [(.int (1 : Int32)), (.int (12 : Int32))])) _
              refine Goes.via (fun t k => XS.iadd X0.here hx rfl (hb hby d3_69) rfl k) ?_
              show Goes p e below (s₁.setTop (mkF m 70 #[.val (.ref a1), .val (.int (0 : Int32)), .val (.int (20 : Int32)), .val (.int p4), .val (.int (12 : Int32)), .val (.int (11 : Int32)), .val (.int (12 : Int32)), .val (.int (8239 : Int32))] [(.int (13 : Int32))])) _
              refine Goes.via (fun t k => XS.ineg X0.here hx rfl (hb hby d3_70) rfl k) ?_
              show Goes p e below (s₁.setTop (mkF m 71 #[.val (.ref a1), .val (.int (0 : Int32)), .val (.int (20 : Int32)), .val (.int p4), .val (.int (12 : Int32)), .val (.int (11 : Int32)), .val (.int (12 : Int32)), .val (.int (8239 : Int32))] [(.int (-13 : Int32))])) _
              obtain ⟨fs, hr, hrun, hended, hW, hsame⟩ := X0.leave (v := some (.int (-13 : Int32))) (fun h => by rw [Bd.returns] at h; cases h)
              refine ⟨_, _, ?_, hrun, hended, _, _, rfl, ?_, ⟨_, rfl⟩, hW, hsame.mono (by decide) (by decide)⟩
              · exact retI X0 hx Bd.returns (hb hby d3_71) hr
              · show Q3 Z a1 p4 h0 n0 _ s₁.heap _
                rw [e0]
                exact ⟨congrArg some (congrArg _ (by simp only [f3, if_pos hc33_2, if_neg hc33_4, if_pos hc48_14, if_pos hc33_16, if_neg hc33_18, if_pos hc48_20])), N0, rfl⟩
            · refine Goes.via (fun t k => XS.icmpYes X0.here hx rfl (pc0 := 48) (pc' := 60) rfl (hb hby d3_48) rfl (flt hc48_20).2.2.2 (by decide) (by decide) k) ?_
              show Goes p e below (s₁.setTop (mkF m 60 #[.val (.ref a1), .val (.int (0 : Int32)), .val (.int (20 : Int32)), .val (.int p4), .val (.int (12 : Int32)), .val (.int (13 : Int32)), .val (.int (12 : Int32)), .val (.int (8239 : Int32))] [])) _
              refine Goes.via (fun t k => XS.iload X0.here hx rfl (hb hby d3_60) rfl k) ?_
              show Goes p e below (s₁.setTop (mkF m 62 #[.val (.ref a1), .val (.int (0 : Int32)), .val (.int (20 : Int32)), .val (.int p4), .val (.int (12 : Int32)), .val (.int (13 : Int32)), .val (.int (12 : Int32)), .val (.int (8239 : Int32))] [(.int (12 : Int32))])) _
              obtain ⟨fs, hr, hrun, hended, hW, hsame⟩ := X0.leave (v := some (.int (12 : Int32))) (fun h => by rw [Bd.returns] at h; cases h)
              refine ⟨_, _, ?_, hrun, hended, _, _, rfl, ?_, ⟨_, rfl⟩, hW, hsame.mono (by decide) (by decide)⟩
              · exact retI X0 hx Bd.returns (hb hby d3_62) hr
              · show Q3 Z a1 p4 h0 n0 _ s₁.heap _
                rw [e0]
                exact ⟨congrArg some (congrArg _ (by simp only [f3, if_pos hc33_2, if_neg hc33_4, if_pos hc48_14, if_pos hc33_16, if_neg hc33_18, if_neg hc48_20])), N0, rfl⟩
        · refine Goes.via (fun t k => XS.icmpYes X0.here hx rfl (pc0 := 33) (pc' := 45) rfl (hb hby d3_33) rfl (flt hc33_16).2.1 (by decide) (by decide) k) ?_
          show Goes p e below (s₁.setTop (mkF m 45 #[.val (.ref a1), .val (.int (0 : Int32)), .val (.int (20 : Int32)), .val (.int p4), .val (.int (10 : Int32)), .val (.int (13 : Int32)), .val (.int (11 : Int32)), .val (.int (8233 : Int32))] [])) _
          refine Goes.via (fun t k => XS.iload X0.here hx rfl (hb hby d3_45) rfl k) ?_
          show Goes p e below (s₁.setTop (mkF m 47 #[.val (.ref a1), .val (.int (0 : Int32)), .val (.int (20 : Int32)), .val (.int p4), .val (.int (10 : Int32)), .val (.int (13 : Int32)), .val (.int (11 : Int32)), .val (.int (8233 : Int32))] [(.int (8233 : Int32))])) _
          refine Goes.via (fun t k => XS.iloadN X0.here hx rfl (hb hby d3_47) rfl k) ?_
          show Goes p e below (s₁.setTop (mkF m 48 #[.val (.ref a1), .val (.int (0 : Int32)), .val (.int (20 : Int32)), .val (.int p4), .val (.int (10 : Int32)), .val (.int (13 : Int32)), .val (.int (11 : Int32)), .val (.int (8233 : Int32))] [(.int p4), (.int (8233 : Int32))])) _
          by_cases hc48_21 : p4 < (8233 : Int32)
          · refine Goes.via (fun t k => XS.icmpNo X0.here hx rfl (hb hby d3_48) rfl (tlt hc48_21).2.2.2 k) ?_
            show Goes p e below (s₁.setTop (mkF m 51 #[.val (.ref a1), .val (.int (0 : Int32)), .val (.int (20 : Int32)), .val (.int p4), .val (.int (10 : Int32)), .val (.int (13 : Int32)), .val (.int (11 : Int32)), .val (.int (8233 : Int32))] [])) _
            refine Goes.via (fun t k => XS.iload X0.here hx rfl (hb hby d3_51) rfl k) ?_
            show Goes p e below (s₁.setTop (mkF m 53 #[.val (.ref a1), .val (.int (0 : Int32)), .val (.int (20 : Int32)), .val (.int p4), .val (.int (10 : Int32)), .val (.int (13 : Int32)), .val (.int (11 : Int32)), .val (.int (8233 : Int32))] [(.int (11 : Int32))])) _
            refine Goes.via (fun t k => XS.iconst X0.here hx rfl (hb hby d3_53) k) ?_
            show Goes p e below (s₁.setTop (mkF m 54 #[.val (.ref a1), .val (.int (0 : Int32)), .val (.int (20 : Int32)), .val (.int p4), .val (.int (10 : Int32)), .val (.int (13 : Int32)), .val (.int (11 : Int32)), .val (.int (8233 : Int32))] [(.int (1 : Int32)), (.int (11 : Int32))])) _
            refine Goes.via (fun t k => XS.isub X0.here hx rfl (hb hby d3_54) rfl k) ?_
            show Goes p e below (s₁.setTop (mkF m 55 #[.val (.ref a1), .val (.int (0 : Int32)), .val (.int (20 : Int32)), .val (.int p4), .val (.int (10 : Int32)), .val (.int (13 : Int32)), .val (.int (11 : Int32)), .val (.int (8233 : Int32))] [(.int (10 : Int32))])) _
            refine Goes.via (fun t k => XS.istore X0.here hx rfl (hb hby d3_55) rfl (l' := #[.val (.ref a1), .val (.int (0 : Int32)), .val (.int (20 : Int32)), .val (.int p4), .val (.int (10 : Int32)), .val (.int (10 : Int32)), .val (.int (11 : Int32)), .val (.int (8233 : Int32))]) rfl k) ?_
            show Goes p e below (s₁.setTop (mkF m 57 #[.val (.ref a1), .val (.int (0 : Int32)), .val (.int (20 : Int32)), .val (.int p4), .val (.int (10 : Int32)), .val (.int (10 : Int32)), .val (.int (11 : Int32)), .val (.int (8233 : Int32))] [])) _
            refine Goes.via (fun t k => XS.goto X0.here hx rfl (pc0 := 57) (pc' := 63) rfl (hb hby d3_57) (by decide) (by decide) k) ?_
            show Goes p e below (s₁.setTop (mkF m 63 #[.val (.ref a1), .val (.int (0 : Int32)), .val (.int (20 : Int32)), .val (.int p4), .val (.int (10 : Int32)), .val (.int (10 : Int32)), .val (.int (11 : Int32)), .val (.int (8233 : Int32))] [])) _
            refine Goes.via (fun t k => XS.goto X0.here hx rfl (pc0 := 63) (pc' := 8) rfl (hb hby d3_63) (by decide) (by decide) k) ?_
            show Goes p e below (s₁.setTop (mkF m 8 #[.val (.ref a1), .val (.int (0 : Int32)), .val (.int (20 : Int32)), .val (.int p4), .val (.int (10 : Int32)), .val (.int (10 : Int32)), .val (.int (11 : Int32)), .val (.int (8233 : Int32))] [])) _
            refine Goes.via (fun t k => XS.iload X0.here hx rfl (hb hby d3_8) rfl k) ?_
            show Goes p e below (s₁.setTop (mkF m 10 #[.val (.ref a1), .val (.int (0 : Int32)), .val (.int (20 : Int32)), .val (.int p4), .val (.int (10 : Int32)), .val (.int (10 : Int32)), .val (.int (11 : Int32)), .val (.int (8233 : Int32))] [(.int (10 : Int32))])) _
            refine Goes.via (fun t k => XS.iload X0.here hx rfl (hb hby d3_10) rfl k) ?_
            show Goes p e below (s₁.setTop (mkF m 12 #[.val (.ref a1), .val (.int (0 : Int32)), .val (.int (20 : Int32)), .val (.int p4), .val (.int (10 : Int32)), .val (.int (10 : Int32)), .val (.int (11 : Int32)), .val (.int (8233 : Int32))] [(.int (10 : Int32)), (.int (10 : Int32))])) _
            refine Goes.via (fun t k => XS.icmpNo X0.here hx rfl (hb hby d3_12) rfl (flt (show ¬ ((10 : Int32) < (10 : Int32)) from (by decide))).2.2.1 k) ?_
            show Goes p e below (s₁.setTop (mkF m 15 #[.val (.ref a1), .val (.int (0 : Int32)), .val (.int (20 : Int32)), .val (.int p4), .val (.int (10 : Int32)), .val (.int (10 : Int32)), .val (.int (11 : Int32)), .val (.int (8233 : Int32))] [])) _
            refine Goes.via (fun t k => XS.iload X0.here hx rfl (hb hby d3_15) rfl k) ?_
            show Goes p e below (s₁.setTop (mkF m 17 #[.val (.ref a1), .val (.int (0 : Int32)), .val (.int (20 : Int32)), .val (.int p4), .val (.int (10 : Int32)), .val (.int (10 : Int32)), .val (.int (11 : Int32)), .val (.int (8233 : Int32))] [(.int (10 : Int32))])) _
            refine Goes.via (fun t k => XS.iload X0.here hx rfl (hb hby d3_17) rfl k) ?_
            show Goes p e below (s₁.setTop (mkF m 19 #[.val (.ref a1), .val (.int (0 : Int32)), .val (.int (20 : Int32)), .val (.int p4), .val (.int (10 : Int32)), .val (.int (10 : Int32)), .val (.int (11 : Int32)), .val (.int (8233 : Int32))] [(.int (10 : Int32)), (.int (10 : Int32))])) _
            refine Goes.via (fun t k => XS.iadd X0.here hx rfl (hb hby d3_19) rfl k) ?_
            show Goes p e below (s₁.setTop (mkF m 20 #[.val (.ref a1), .val (.int (0 : Int32)), .val (.int (20 : Int32)), .val (.int p4), .val (.int (10 : Int32)), .val (.int (10 : Int32)), .val (.int (11 : Int32)), .val (.int (8233 : Int32))] [(.int (20 : Int32))])) _
            refine Goes.via (fun t k => XS.iconst X0.here hx rfl (hb hby d3_20) k) ?_
            show Goes p e below (s₁.setTop (mkF m 21 #[.val (.ref a1), .val (.int (0 : Int32)), .val (.int (20 : Int32)), .val (.int p4), .val (.int (10 : Int32)), .val (.int (10 : Int32)), .val (.int (11 : Int32)), .val (.int (8233 : Int32))] [(.int (1 : Int32)), (.int (20 : Int32))])) _
            refine Goes.via (fun t k => XS.iushr X0.here hx rfl (hb hby d3_21) rfl k) ?_
            show Goes p e below (s₁.setTop (mkF m 22 #[.val (.ref a1), .val (.int (0 : Int32)), .val (.int (20 : Int32)), .val (.int p4), .val (.int (10 : Int32)), .val (.int (10 : Int32)), .val (.int (11 : Int32)), .val (.int (8233 : Int32))] [(.int (10 : Int32))])) _
            refine Goes.via (fun t k => XS.istore X0.here hx rfl (hb hby d3_22) rfl (l' := #[.val (.ref a1), .val (.int (0 : Int32)), .val (.int (20 : Int32)), .val (.int p4), .val (.int (10 : Int32)), .val (.int (10 : Int32)), .val (.int (10 : Int32)), .val (.int (8233 : Int32))]) rfl k) ?_
            show Goes p e below (s₁.setTop (mkF m 24 #[.val (.ref a1), .val (.int (0 : Int32)), .val (.int (20 : Int32)), .val (.int p4), .val (.int (10 : Int32)), .val (.int (10 : Int32)), .val (.int (10 : Int32)), .val (.int (8233 : Int32))] [])) _
            refine Goes.via (fun t k => XS.aloadN X0.here hx rfl (hb hby d3_24) rfl rfl k) ?_
            show Goes p e below (s₁.setTop (mkF m 25 #[.val (.ref a1), .val (.int (0 : Int32)), .val (.int (20 : Int32)), .val (.int p4), .val (.int (10 : Int32)), .val (.int (10 : Int32)), .val (.int (10 : Int32)), .val (.int (8233 : Int32))] [(.ref a1)])) _
            refine Goes.via (fun t k => XS.iload X0.here hx rfl (hb hby d3_25) rfl k) ?_
            show Goes p e below (s₁.setTop (mkF m 27 #[.val (.ref a1), .val (.int (0 : Int32)), .val (.int (20 : Int32)), .val (.int p4), .val (.int (10 : Int32)), .val (.int (10 : Int32)), .val (.int (10 : Int32)), .val (.int (8233 : Int32))] [(.int (10 : Int32)), (.ref a1)])) _
            obtain ⟨cl22, Ar22, qa22, Sa22, Na22, Ha22, Ga22⟩ := id V1
            have hin22 : ¬ ((10 : Int32) < 0 ∨ cl22.slots.size ≤ ((10 : Int32)).toNatClampNeg) := inb_of Sa22 ⟨by decide, by decide⟩
            have hat22 : cl22.slots[((10 : Int32)).toNatClampNeg]? = some (.int (8232 : Int32)) := Ha22.at hin22 rfl
            refine Goes.via (fun t k => X0.iaload hx (j := (10 : Int32)) (v := (.int (8232 : Int32))) (by rw [e0]; exact Ar22.1) (State.isArrayOf_alike hZ.alike Ar22.2.1) Ar22.2.2 hin22 hat22 (g := (mkF m 27 #[.val (.ref a1), .val (.int (0 : Int32)), .val (.int (20 : Int32)), .val (.int p4), .val (.int (10 : Int32)), .val (.int (10 : Int32)), .val (.int (10 : Int32)), .val (.int (8233 : Int32))] [(.int (10 : Int32)), (.ref a1)])) rfl rfl (hb hby d3_27) _ k) ?_
            show Goes p e below (s₁.setTop (mkF m 28 #[.val (.ref a1), .val (.int (0 : Int32)), .val (.int (20 : Int32)), .val (.int p4), .val (.int (10 : Int32)), .val (.int (10 : Int32)), .val (.int (10 : Int32)), .val (.int (8233 : Int32))] [(.int (8232 : Int32))])) _
            refine Goes.via (fun t k => XS.istore X0.here hx rfl (hb hby d3_28) rfl (l' := #[.val (.ref a1), .val (.int (0 : Int32)), .val (.int (20 : Int32)), .val (.int p4), .val (.int (10 : Int32)), .val (.int (10 : Int32)), .val (.int (10 : Int32)), .val (.int (8232 : Int32))]) rfl k) ?_
            show Goes p e below (s₁.setTop (mkF m 30 #[.val (.ref a1), .val (.int (0 : Int32)), .val (.int (20 : Int32)), .val (.int p4), .val (.int (10 : Int32)), .val (.int (10 : Int32)), .val (.int (10 : Int32)), .val (.int (8232 : Int32))] [])) _
            refine Goes.via (fun t k => XS.iload X0.here hx rfl (hb hby d3_30) rfl k) ?_
            show Goes p e below (s₁.setTop (mkF m 32 #[.val (.ref a1), .val (.int (0 : Int32)), .val (.int (20 : Int32)), .val (.int p4), .val (.int (10 : Int32)), .val (.int (10 : Int32)), .val (.int (10 : Int32)), .val (.int (8232 : Int32))] [(.int (8232 : Int32))])) _
            refine Goes.via (fun t k => XS.iloadN X0.here hx rfl (hb hby d3_32) rfl k) ?_
            show Goes p e below (s₁.setTop (mkF m 33 #[.val (.ref a1), .val (.int (0 : Int32)), .val (.int (20 : Int32)), .val (.int p4), .val (.int (10 : Int32)), .val (.int (10 : Int32)), .val (.int (10 : Int32)), .val (.int (8232 : Int32))] [(.int p4), (.int (8232 : Int32))])) _
            by_cases hc33_23 : (8232 : Int32) < p4
            · refine Goes.via (fun t k => XS.icmpNo X0.here hx rfl (hb hby d3_33) rfl (tlt hc33_23).2.1 k) ?_
              show Goes p e below (s₁.setTop (mkF m 36 #[.val (.ref a1), .val (.int (0 : Int32)), .val (.int (20 : Int32)), .val (.int p4), .val (.int (10 : Int32)), .val (.int (10 : Int32)), .val (.int (10 : Int32)), .val (.int (8232 : Int32))] [])) _
              refine Goes.via (fun t k => XS.iload X0.here hx rfl (hb hby d3_36) rfl k) ?_
              show Goes p e below (s₁.setTop (mkF m 38 #[.val (.ref a1), .val (.int (0 : Int32)), .val (.int (20 : Int32)), .val (.int p4), .val (.int (10 : Int32)), .val (.int (10 : Int32)), .val (.int (10 : Int32)), .val (.int (8232 : Int32))] [(.int (10 : Int32))])) _
              refine Goes.via (fun t k => XS.iconst X0.here hx rfl (hb hby d3_38) k) ?_
              show Goes p e below (s₁.setTop (mkF m 39 #[.val (.ref a1), .val (.int (0 : Int32)), .val (.int (20 : Int32)), .val (.int p4), .val (.int (10 : Int32)), .val (.int (10 : Int32)), .val (.int (10 : Int32)), .val (.int (8232 : Int32))] [(.int (1 : Int32)), (.int (10 : Int32))])) _
              refine Goes.via (fun t k => XS.iadd X0.here hx rfl (hb hby d3_39) rfl k) ?_
              show Goes p e below (s₁.setTop (mkF m 40 #[.val (.ref a1), .val (.int (0 : Int32)), .val (.int (20 : Int32)), .val (.int p4), .val (.int (10 : Int32)), .val (.int (10 : Int32)), .val (.int (10 : Int32)), .val (.int (8232 : Int32))] [(.int (11 : Int32))])) _
              refine Goes.via (fun t k => XS.istore X0.here hx rfl (hb hby d3_40) rfl (l' := #[.val (.ref a1), .val (.int (0 : Int32)), .val (.int (20 : Int32)), .val (.int p4), .val (.int (11 : Int32)), .val (.int (10 : Int32)), .val (.int (10 : Int32)), .val (.int (8232 : Int32))]) rfl k) ?_
              show Goes p e below (s₁.setTop (mkF m 42 #[.val (.ref a1), .val (.int (0 : Int32)), .val (.int (20 : Int32)), .val (.int p4), .val (.int (11 : Int32)), .val (.int (10 : Int32)), .val (.int (10 : Int32)), .val (.int (8232 : Int32))] [])) _
              refine Goes.via (fun t k => XS.goto X0.here hx rfl (pc0 := 42) (pc' := 63) rfl (hb hby d3_42) (by decide) (by decide) k) ?_
              show Goes p e below (s₁.setTop (mkF m 63 #[.val (.ref a1), .val (.int (0 : Int32)), .val (.int (20 : Int32)), .val (.int p4), .val (.int (11 : Int32)), .val (.int (10 : Int32)), .val (.int (10 : Int32)), .val (.int (8232 : Int32))] [])) _
              refine Goes.via (fun t k => XS.goto X0.here hx rfl (pc0 := 63) (pc' := 8) rfl (hb hby d3_63) (by decide) (by decide) k) ?_
              show Goes p e below (s₁.setTop (mkF m 8 #[.val (.ref a1), .val (.int (0 : Int32)), .val (.int (20 : Int32)), .val (.int p4), .val (.int (11 : Int32)), .val (.int (10 : Int32)), .val (.int (10 : Int32)), .val (.int (8232 : Int32))] [])) _
              refine Goes.via (fun t k => XS.iload X0.here hx rfl (hb hby d3_8) rfl k) ?_
              show Goes p e below (s₁.setTop (mkF m 10 #[.val (.ref a1), .val (.int (0 : Int32)), .val (.int (20 : Int32)), .val (.int p4), .val (.int (11 : Int32)), .val (.int (10 : Int32)), .val (.int (10 : Int32)), .val (.int (8232 : Int32))] [(.int (11 : Int32))])) _
              refine Goes.via (fun t k => XS.iload X0.here hx rfl (hb hby d3_10) rfl k) ?_
              show Goes p e below (s₁.setTop (mkF m 12 #[.val (.ref a1), .val (.int (0 : Int32)), .val (.int (20 : Int32)), .val (.int p4), .val (.int (11 : Int32)), .val (.int (10 : Int32)), .val (.int (10 : Int32)), .val (.int (8232 : Int32))] [(.int (10 : Int32)), (.int (11 : Int32))])) _
              refine Goes.via (fun t k => XS.icmpYes X0.here hx rfl (pc0 := 12) (pc' := 66) rfl (hb hby d3_12) rfl (tlt (show (10 : Int32) < (11 : Int32) from (by decide))).2.2.1 (by decide) (by decide) k) ?_
              show Goes p e below (s₁.setTop (mkF m 66 #[.val (.ref a1), .val (.int (0 : Int32)), .val (.int (20 : Int32)), .val (.int p4), .val (.int (11 : Int32)), .val (.int (10 : Int32)), .val (.int (10 : Int32)), .val (.int (8232 : Int32))] [])) _
              refine Goes.via (fun t k => XS.iload X0.here hx rfl (hb hby d3_66) rfl k) ?_
              show Goes p e below (s₁.setTop (mkF m 68 #[.val (.ref a1), .val (.int (0 : Int32)), .val (.int (20 : Int32)), .val (.int p4), .val (.int (11 : Int32)), .val (.int (10 : Int32)), .val (.int (10 : Int32)), .val (.int (8232 : Int32))] [(.int (11 : Int32))])) _
              refine Goes.via (fun t k => XS.iconst X0.here hx rfl (hb hby d3_68) k) ?_
              show Goes p e below (s₁.setTop (mkF m 69 #[.val (.ref a1), .val (.int (0 : Int32)), .val (.int (20 : Int32)), .val (.int p4), .val (.int (11 : Int32)), .val (.int (10 : Int32)), .val (.int (10 : Int32)), .val (.int (8232 : Int32))] [(.int (1 : Int32)), (.int (11 : Int32))])) _
              refine Goes.via (fun t k => XS.iadd X0.here hx rfl (hb hby d3_69) rfl k) ?_
              show Goes p e below (s₁.setTop (mkF m 70 #[.val (.ref a1), .val (.int (0 : Int32)), .val (.int (20 : Int32)), .val (.int p4), .val (.int (11 : Int32)), .val (.int (10 : Int32)), .val (.int (10 : Int32)), .val (.int (8232 : Int32))] [(.int (12 : Int32))])) _
              refine Goes.via (fun t k => XS.ineg X0.here hx rfl (hb hby d3_70) rfl k) ?_
              show Goes p e below (s₁.setTop (mkF m 71 #[.val (.ref a1), .val (.int (0 : Int32)), .val (.int (20 : Int32)), .val (.int p4), .val (.int (11 : Int32)), .val (.int (10 : Int32)), .val (.int (10 : Int32)), .val (.int (8232 : Int32))] [(.int (-12 : Int32))])) _
              obtain ⟨fs, hr, hrun, hended, hW, hsame⟩ := X0.leave (v := some (.int (-12 : Int32))) (fun h => by rw [Bd.returns] at h; cases h)
              refine ⟨_, _, ?_, hrun, hended, _, _, rfl, ?_, ⟨_, rfl⟩, hW, hsame.mono (by decide) (by decide)⟩
              · exact retI X0 hx Bd.returns (hb hby d3_71) hr
              · show Q3 Z a1 p4 h0 n0 _ s₁.heap _
                rw [e0]
                exact ⟨congrArg some (congrArg _ (by simp only [f3, if_pos hc33_2, if_neg hc33_4, if_pos hc48_14, if_neg hc33_16, if_pos hc48_21, if_pos hc33_23])), N0, rfl⟩
            · refine Goes.via (fun t k => XS.icmpYes X0.here hx rfl (pc0 := 33) (pc' := 45) rfl (hb hby d3_33) rfl (flt hc33_23).2.1 (by decide) (by decide) k) ?_
              show Goes p e below (s₁.setTop (mkF m 45 #[.val (.ref a1), .val (.int (0 : Int32)), .val (.int (20 : Int32)), .val (.int p4), .val (.int (10 : Int32)), .val (.int (10 : Int32)), .val (.int (10 : Int32)), .val (.int (8232 : Int32))] [])) _
              refine Goes.via (fun t k => XS.iload X0.here hx rfl (hb hby d3_45) rfl k) ?_
              show Goes p e below (s₁.setTop (mkF m 47 #[.val (.ref a1), .val (.int (0 : Int32)), .val (.int (20 : Int32)), .val (.int p4), .val (.int (10 : Int32)), .val (.int (10 : Int32)), .val (.int (10 : Int32)), .val (.int (8232 : Int32))] [(.int (8232 : Int32))])) _
              refine Goes.via (fun t k => XS.iloadN X0.here hx rfl (hb hby d3_47) rfl k) ?_
              show Goes p e below (s₁.setTop (mkF m 48 #[.val (.ref a1), .val (.int (0 : Int32)), .val (.int (20 : Int32)), .val (.int p4), .val (.int (10 : Int32)), .val (.int (10 : Int32)), .val (.int (10 : Int32)), .val (.int (8232 : Int32))] [(.int p4), (.int (8232 : Int32))])) _
              by_cases hc48_24 : p4 < (8232 : Int32)
              · refine Goes.via (fun t k => XS.icmpNo X0.here hx rfl (hb hby d3_48) rfl (tlt hc48_24).2.2.2 k) ?_
                show Goes p e below (s₁.setTop (mkF m 51 #[.val (.ref a1), .val (.int (0 : Int32)), .val (.int (20 : Int32)), .val (.int p4), .val (.int (10 : Int32)), .val (.int (10 : Int32)), .val (.int (10 : Int32)), .val (.int (8232 : Int32))] [])) _
                refine Goes.via (fun t k => XS.iload X0.here hx rfl (hb hby d3_51) rfl k) ?_
                show Goes p e below (s₁.setTop (mkF m 53 #[.val (.ref a1), .val (.int (0 : Int32)), .val (.int (20 : Int32)), .val (.int p4), .val (.int (10 : Int32)), .val (.int (10 : Int32)), .val (.int (10 : Int32)), .val (.int (8232 : Int32))] [(.int (10 : Int32))])) _
                refine Goes.via (fun t k => XS.iconst X0.here hx rfl (hb hby d3_53) k) ?_
                show Goes p e below (s₁.setTop (mkF m 54 #[.val (.ref a1), .val (.int (0 : Int32)), .val (.int (20 : Int32)), .val (.int p4), .val (.int (10 : Int32)), .val (.int (10 : Int32)), .val (.int (10 : Int32)), .val (.int (8232 : Int32))] [(.int (1 : Int32)), (.int (10 : Int32))])) _
                refine Goes.via (fun t k => XS.isub X0.here hx rfl (hb hby d3_54) rfl k) ?_
                show Goes p e below (s₁.setTop (mkF m 55 #[.val (.ref a1), .val (.int (0 : Int32)), .val (.int (20 : Int32)), .val (.int p4), .val (.int (10 : Int32)), .val (.int (10 : Int32)), .val (.int (10 : Int32)), .val (.int (8232 : Int32))] [(.int (9 : Int32))])) _
                refine Goes.via (fun t k => XS.istore X0.here hx rfl (hb hby d3_55) rfl (l' := #[.val (.ref a1), .val (.int (0 : Int32)), .val (.int (20 : Int32)), .val (.int p4), .val (.int (10 : Int32)), .val (.int (9 : Int32)), .val (.int (10 : Int32)), .val (.int (8232 : Int32))]) rfl k) ?_
                show Goes p e below (s₁.setTop (mkF m 57 #[.val (.ref a1), .val (.int (0 : Int32)), .val (.int (20 : Int32)), .val (.int p4), .val (.int (10 : Int32)), .val (.int (9 : Int32)), .val (.int (10 : Int32)), .val (.int (8232 : Int32))] [])) _
                refine Goes.via (fun t k => XS.goto X0.here hx rfl (pc0 := 57) (pc' := 63) rfl (hb hby d3_57) (by decide) (by decide) k) ?_
                show Goes p e below (s₁.setTop (mkF m 63 #[.val (.ref a1), .val (.int (0 : Int32)), .val (.int (20 : Int32)), .val (.int p4), .val (.int (10 : Int32)), .val (.int (9 : Int32)), .val (.int (10 : Int32)), .val (.int (8232 : Int32))] [])) _
                refine Goes.via (fun t k => XS.goto X0.here hx rfl (pc0 := 63) (pc' := 8) rfl (hb hby d3_63) (by decide) (by decide) k) ?_
                show Goes p e below (s₁.setTop (mkF m 8 #[.val (.ref a1), .val (.int (0 : Int32)), .val (.int (20 : Int32)), .val (.int p4), .val (.int (10 : Int32)), .val (.int (9 : Int32)), .val (.int (10 : Int32)), .val (.int (8232 : Int32))] [])) _
                refine Goes.via (fun t k => XS.iload X0.here hx rfl (hb hby d3_8) rfl k) ?_
                show Goes p e below (s₁.setTop (mkF m 10 #[.val (.ref a1), .val (.int (0 : Int32)), .val (.int (20 : Int32)), .val (.int p4), .val (.int (10 : Int32)), .val (.int (9 : Int32)), .val (.int (10 : Int32)), .val (.int (8232 : Int32))] [(.int (10 : Int32))])) _
                refine Goes.via (fun t k => XS.iload X0.here hx rfl (hb hby d3_10) rfl k) ?_
                show Goes p e below (s₁.setTop (mkF m 12 #[.val (.ref a1), .val (.int (0 : Int32)), .val (.int (20 : Int32)), .val (.int p4), .val (.int (10 : Int32)), .val (.int (9 : Int32)), .val (.int (10 : Int32)), .val (.int (8232 : Int32))] [(.int (9 : Int32)), (.int (10 : Int32))])) _
                refine Goes.via (fun t k => XS.icmpYes X0.here hx rfl (pc0 := 12) (pc' := 66) rfl (hb hby d3_12) rfl (tlt (show (9 : Int32) < (10 : Int32) from (by decide))).2.2.1 (by decide) (by decide) k) ?_
                show Goes p e below (s₁.setTop (mkF m 66 #[.val (.ref a1), .val (.int (0 : Int32)), .val (.int (20 : Int32)), .val (.int p4), .val (.int (10 : Int32)), .val (.int (9 : Int32)), .val (.int (10 : Int32)), .val (.int (8232 : Int32))] [])) _
                refine Goes.via (fun t k => XS.iload X0.here hx rfl (hb hby d3_66) rfl k) ?_
                show Goes p e below (s₁.setTop (mkF m 68 #[.val (.ref a1), .val (.int (0 : Int32)), .val (.int (20 : Int32)), .val (.int p4), .val (.int (10 : Int32)), .val (.int (9 : Int32)), .val (.int (10 : Int32)), .val (.int (8232 : Int32))] [(.int (10 : Int32))])) _
                refine Goes.via (fun t k => XS.iconst X0.here hx rfl (hb hby d3_68) k) ?_
                show Goes p e below (s₁.setTop (mkF m 69 #[.val (.ref a1), .val (.int (0 : Int32)), .val (.int (20 : Int32)), .val (.int p4), .val (.int (10 : Int32)), .val (.int (9 : Int32)), .val (.int (10 : Int32)), .val (.int (8232 : Int32))] [(.int (1 : Int32)), (.int (10 : Int32))])) _
                refine Goes.via (fun t k => XS.iadd X0.here hx rfl (hb hby d3_69) rfl k) ?_
                show Goes p e below (s₁.setTop (mkF m 70 #[.val (.ref a1), .val (.int (0 : Int32)), .val (.int (20 : Int32)), .val (.int p4), .val (.int (10 : Int32)), .val (.int (9 : Int32)), .val (.int (10 : Int32)), .val (.int (8232 : Int32))] [(.int (11 : Int32))])) _
                refine Goes.via (fun t k => XS.ineg X0.here hx rfl (hb hby d3_70) rfl k) ?_
                show Goes p e below (s₁.setTop (mkF m 71 #[.val (.ref a1), .val (.int (0 : Int32)), .val (.int (20 : Int32)), .val (.int p4), .val (.int (10 : Int32)), .val (.int (9 : Int32)), .val (.int (10 : Int32)), .val (.int (8232 : Int32))] [(.int (-11 : Int32))])) _
                obtain ⟨fs, hr, hrun, hended, hW, hsame⟩ := X0.leave (v := some (.int (-11 : Int32))) (fun h => by rw [Bd.returns] at h; cases h)
                refine ⟨_, _, ?_, hrun, hended, _, _, rfl, ?_, ⟨_, rfl⟩, hW, hsame.mono (by decide) (by decide)⟩
                · exact retI X0 hx Bd.returns (hb hby d3_71) hr
                · show Q3 Z a1 p4 h0 n0 _ s₁.heap _
                  rw [e0]
                  exact ⟨congrArg some (congrArg _ (by simp only [f3, if_pos hc33_2, if_neg hc33_4, if_pos hc48_14, if_neg hc33_16, if_pos hc48_21, if_neg hc33_23, if_pos hc48_24])), N0, rfl⟩
              · refine Goes.via (fun t k => XS.icmpYes X0.here hx rfl (pc0 := 48) (pc' := 60) rfl (hb hby d3_48) rfl (flt hc48_24).2.2.2 (by decide) (by decide) k) ?_
                show Goes p e below (s₁.setTop (mkF m 60 #[.val (.ref a1), .val (.int (0 : Int32)), .val (.int (20 : Int32)), .val (.int p4), .val (.int (10 : Int32)), .val (.int (10 : Int32)), .val (.int (10 : Int32)), .val (.int (8232 : Int32))] [])) _
                refine Goes.via (fun t k => XS.iload X0.here hx rfl (hb hby d3_60) rfl k) ?_
                show Goes p e below (s₁.setTop (mkF m 62 #[.val (.ref a1), .val (.int (0 : Int32)), .val (.int (20 : Int32)), .val (.int p4), .val (.int (10 : Int32)), .val (.int (10 : Int32)), .val (.int (10 : Int32)), .val (.int (8232 : Int32))] [(.int (10 : Int32))])) _
                obtain ⟨fs, hr, hrun, hended, hW, hsame⟩ := X0.leave (v := some (.int (10 : Int32))) (fun h => by rw [Bd.returns] at h; cases h)
                refine ⟨_, _, ?_, hrun, hended, _, _, rfl, ?_, ⟨_, rfl⟩, hW, hsame.mono (by decide) (by decide)⟩
                · exact retI X0 hx Bd.returns (hb hby d3_62) hr
                · show Q3 Z a1 p4 h0 n0 _ s₁.heap _
                  rw [e0]
                  exact ⟨congrArg some (congrArg _ (by simp only [f3, if_pos hc33_2, if_neg hc33_4, if_pos hc48_14, if_neg hc33_16, if_pos hc48_21, if_neg hc33_23, if_neg hc48_24])), N0, rfl⟩
          · refine Goes.via (fun t k => XS.icmpYes X0.here hx rfl (pc0 := 48) (pc' := 60) rfl (hb hby d3_48) rfl (flt hc48_21).2.2.2 (by decide) (by decide) k) ?_
            show Goes p e below (s₁.setTop (mkF m 60 #[.val (.ref a1), .val (.int (0 : Int32)), .val (.int (20 : Int32)), .val (.int p4), .val (.int (10 : Int32)), .val (.int (13 : Int32)), .val (.int (11 : Int32)), .val (.int (8233 : Int32))] [])) _
            refine Goes.via (fun t k => XS.iload X0.here hx rfl (hb hby d3_60) rfl k) ?_
            show Goes p e below (s₁.setTop (mkF m 62 #[.val (.ref a1), .val (.int (0 : Int32)), .val (.int (20 : Int32)), .val (.int p4), .val (.int (10 : Int32)), .val (.int (13 : Int32)), .val (.int (11 : Int32)), .val (.int (8233 : Int32))] [(.int (11 : Int32))])) _
            obtain ⟨fs, hr, hrun, hended, hW, hsame⟩ := X0.leave (v := some (.int (11 : Int32))) (fun h => by rw [Bd.returns] at h; cases h)
            refine ⟨_, _, ?_, hrun, hended, _, _, rfl, ?_, ⟨_, rfl⟩, hW, hsame.mono (by decide) (by decide)⟩
            · exact retI X0 hx Bd.returns (hb hby d3_62) hr
            · show Q3 Z a1 p4 h0 n0 _ s₁.heap _
              rw [e0]
              exact ⟨congrArg some (congrArg _ (by simp only [f3, if_pos hc33_2, if_neg hc33_4, if_pos hc48_14, if_neg hc33_16, if_neg hc48_21])), N0, rfl⟩
      · refine Goes.via (fun t k => XS.icmpYes X0.here hx rfl (pc0 := 48) (pc' := 60) rfl (hb hby d3_48) rfl (flt hc48_14).2.2.2 (by decide) (by decide) k) ?_
        show Goes p e below (s₁.setTop (mkF m 60 #[.val (.ref a1), .val (.int (0 : Int32)), .val (.int (20 : Int32)), .val (.int p4), .val (.int (10 : Int32)), .val (.int (19 : Int32)), .val (.int (14 : Int32)), .val (.int (8287 : Int32))] [])) _
        refine Goes.via (fun t k => XS.iload X0.here hx rfl (hb hby d3_60) rfl k) ?_
        show Goes p e below (s₁.setTop (mkF m 62 #[.val (.ref a1), .val (.int (0 : Int32)), .val (.int (20 : Int32)), .val (.int p4), .val (.int (10 : Int32)), .val (.int (19 : Int32)), .val (.int (14 : Int32)), .val (.int (8287 : Int32))] [(.int (14 : Int32))])) _
        obtain ⟨fs, hr, hrun, hended, hW, hsame⟩ := X0.leave (v := some (.int (14 : Int32))) (fun h => by rw [Bd.returns] at h; cases h)
        refine ⟨_, _, ?_, hrun, hended, _, _, rfl, ?_, ⟨_, rfl⟩, hW, hsame.mono (by decide) (by decide)⟩
        · exact retI X0 hx Bd.returns (hb hby d3_62) hr
        · show Q3 Z a1 p4 h0 n0 _ s₁.heap _
          rw [e0]
          exact ⟨congrArg some (congrArg _ (by simp only [f3, if_pos hc33_2, if_neg hc33_4, if_neg hc48_14])), N0, rfl⟩
  · refine Goes.via (fun t k => XS.icmpYes X0.here hx rfl (pc0 := 33) (pc' := 45) rfl (hb hby d3_33) rfl (flt hc33_2).2.1 (by decide) (by decide) k) ?_
    show Goes p e below (s₁.setTop (mkF m 45 #[.val (.ref a1), .val (.int (0 : Int32)), .val (.int (20 : Int32)), .val (.int p4), .val (.int (0 : Int32)), .val (.int (19 : Int32)), .val (.int (9 : Int32)), .val (.int (8202 : Int32))] [])) _
    refine Goes.via (fun t k => XS.iload X0.here hx rfl (hb hby d3_45) rfl k) ?_
    show Goes p e below (s₁.setTop (mkF m 47 #[.val (.ref a1), .val (.int (0 : Int32)), .val (.int (20 : Int32)), .val (.int p4), .val (.int (0 : Int32)), .val (.int (19 : Int32)), .val (.int (9 : Int32)), .val (.int (8202 : Int32))] [(.int (8202 : Int32))])) _
    refine Goes.via (fun t k => XS.iloadN X0.here hx rfl (hb hby d3_47) rfl k) ?_
    show Goes p e below (s₁.setTop (mkF m 48 #[.val (.ref a1), .val (.int (0 : Int32)), .val (.int (20 : Int32)), .val (.int p4), .val (.int (0 : Int32)), .val (.int (19 : Int32)), .val (.int (9 : Int32)), .val (.int (8202 : Int32))] [(.int p4), (.int (8202 : Int32))])) _
    by_cases hc48_25 : p4 < (8202 : Int32)
    · refine Goes.via (fun t k => XS.icmpNo X0.here hx rfl (hb hby d3_48) rfl (tlt hc48_25).2.2.2 k) ?_
      show Goes p e below (s₁.setTop (mkF m 51 #[.val (.ref a1), .val (.int (0 : Int32)), .val (.int (20 : Int32)), .val (.int p4), .val (.int (0 : Int32)), .val (.int (19 : Int32)), .val (.int (9 : Int32)), .val (.int (8202 : Int32))] [])) _
      refine Goes.via (fun t k => XS.iload X0.here hx rfl (hb hby d3_51) rfl k) ?_
      show Goes p e below (s₁.setTop (mkF m 53 #[.val (.ref a1), .val (.int (0 : Int32)), .val (.int (20 : Int32)), .val (.int p4), .val (.int (0 : Int32)), .val (.int (19 : Int32)), .val (.int (9 : Int32)), .val (.int (8202 : Int32))] [(.int (9 : Int32))])) _
      refine Goes.via (fun t k => XS.iconst X0.here hx rfl (hb hby d3_53) k) ?_
      show Goes p e below (s₁.setTop (mkF m 54 #[.val (.ref a1), .val (.int (0 : Int32)), .val (.int (20 : Int32)), .val (.int p4), .val (.int (0 : Int32)), .val (.int (19 : Int32)), .val (.int (9 : Int32)), .val (.int (8202 : Int32))] [(.int (1 : Int32)), (.int (9 : Int32))])) _
      refine Goes.via (fun t k => XS.isub X0.here hx rfl (hb hby d3_54) rfl k) ?_
      show Goes p e below (s₁.setTop (mkF m 55 #[.val (.ref a1), .val (.int (0 : Int32)), .val (.int (20 : Int32)), .val (.int p4), .val (.int (0 : Int32)), .val (.int (19 : Int32)), .val (.int (9 : Int32)), .val (.int (8202 : Int32))] [(.int (8 : Int32))])) _
      refine Goes.via (fun t k => XS.istore X0.here hx rfl (hb hby d3_55) rfl (l' := #[.val (.ref a1), .val (.int (0 : Int32)), .val (.int (20 : Int32)), .val (.int p4), .val (.int (0 : Int32)), .val (.int (8 : Int32)), .val (.int (9 : Int32)), .val (.int (8202 : Int32))]) rfl k) ?_
      show Goes p e below (s₁.setTop (mkF m 57 #[.val (.ref a1), .val (.int (0 : Int32)), .val (.int (20 : Int32)), .val (.int p4), .val (.int (0 : Int32)), .val (.int (8 : Int32)), .val (.int (9 : Int32)), .val (.int (8202 : Int32))] [])) _
      refine Goes.via (fun t k => XS.goto X0.here hx rfl (pc0 := 57) (pc' := 63) rfl (hb hby d3_57) (by decide) (by decide) k) ?_
      show Goes p e below (s₁.setTop (mkF m 63 #[.val (.ref a1), .val (.int (0 : Int32)), .val (.int (20 : Int32)), .val (.int p4), .val (.int (0 : Int32)), .val (.int (8 : Int32)), .val (.int (9 : Int32)), .val (.int (8202 : Int32))] [])) _
      refine Goes.via (fun t k => XS.goto X0.here hx rfl (pc0 := 63) (pc' := 8) rfl (hb hby d3_63) (by decide) (by decide) k) ?_
      show Goes p e below (s₁.setTop (mkF m 8 #[.val (.ref a1), .val (.int (0 : Int32)), .val (.int (20 : Int32)), .val (.int p4), .val (.int (0 : Int32)), .val (.int (8 : Int32)), .val (.int (9 : Int32)), .val (.int (8202 : Int32))] [])) _
      refine Goes.via (fun t k => XS.iload X0.here hx rfl (hb hby d3_8) rfl k) ?_
      show Goes p e below (s₁.setTop (mkF m 10 #[.val (.ref a1), .val (.int (0 : Int32)), .val (.int (20 : Int32)), .val (.int p4), .val (.int (0 : Int32)), .val (.int (8 : Int32)), .val (.int (9 : Int32)), .val (.int (8202 : Int32))] [(.int (0 : Int32))])) _
      refine Goes.via (fun t k => XS.iload X0.here hx rfl (hb hby d3_10) rfl k) ?_
      show Goes p e below (s₁.setTop (mkF m 12 #[.val (.ref a1), .val (.int (0 : Int32)), .val (.int (20 : Int32)), .val (.int p4), .val (.int (0 : Int32)), .val (.int (8 : Int32)), .val (.int (9 : Int32)), .val (.int (8202 : Int32))] [(.int (8 : Int32)), (.int (0 : Int32))])) _
      refine Goes.via (fun t k => XS.icmpNo X0.here hx rfl (hb hby d3_12) rfl (flt (show ¬ ((8 : Int32) < (0 : Int32)) from (by decide))).2.2.1 k) ?_
      show Goes p e below (s₁.setTop (mkF m 15 #[.val (.ref a1), .val (.int (0 : Int32)), .val (.int (20 : Int32)), .val (.int p4), .val (.int (0 : Int32)), .val (.int (8 : Int32)), .val (.int (9 : Int32)), .val (.int (8202 : Int32))] [])) _
      refine Goes.via (fun t k => XS.iload X0.here hx rfl (hb hby d3_15) rfl k) ?_
      show Goes p e below (s₁.setTop (mkF m 17 #[.val (.ref a1), .val (.int (0 : Int32)), .val (.int (20 : Int32)), .val (.int p4), .val (.int (0 : Int32)), .val (.int (8 : Int32)), .val (.int (9 : Int32)), .val (.int (8202 : Int32))] [(.int (0 : Int32))])) _
      refine Goes.via (fun t k => XS.iload X0.here hx rfl (hb hby d3_17) rfl k) ?_
      show Goes p e below (s₁.setTop (mkF m 19 #[.val (.ref a1), .val (.int (0 : Int32)), .val (.int (20 : Int32)), .val (.int p4), .val (.int (0 : Int32)), .val (.int (8 : Int32)), .val (.int (9 : Int32)), .val (.int (8202 : Int32))] [(.int (8 : Int32)), (.int (0 : Int32))])) _
      refine Goes.via (fun t k => XS.iadd X0.here hx rfl (hb hby d3_19) rfl k) ?_
      show Goes p e below (s₁.setTop (mkF m 20 #[.val (.ref a1), .val (.int (0 : Int32)), .val (.int (20 : Int32)), .val (.int p4), .val (.int (0 : Int32)), .val (.int (8 : Int32)), .val (.int (9 : Int32)), .val (.int (8202 : Int32))] [(.int (8 : Int32))])) _
      refine Goes.via (fun t k => XS.iconst X0.here hx rfl (hb hby d3_20) k) ?_
      show Goes p e below (s₁.setTop (mkF m 21 #[.val (.ref a1), .val (.int (0 : Int32)), .val (.int (20 : Int32)), .val (.int p4), .val (.int (0 : Int32)), .val (.int (8 : Int32)), .val (.int (9 : Int32)), .val (.int (8202 : Int32))] [(.int (1 : Int32)), (.int (8 : Int32))])) _
      refine Goes.via (fun t k => XS.iushr X0.here hx rfl (hb hby d3_21) rfl k) ?_
      show Goes p e below (s₁.setTop (mkF m 22 #[.val (.ref a1), .val (.int (0 : Int32)), .val (.int (20 : Int32)), .val (.int p4), .val (.int (0 : Int32)), .val (.int (8 : Int32)), .val (.int (9 : Int32)), .val (.int (8202 : Int32))] [(.int (4 : Int32))])) _
      refine Goes.via (fun t k => XS.istore X0.here hx rfl (hb hby d3_22) rfl (l' := #[.val (.ref a1), .val (.int (0 : Int32)), .val (.int (20 : Int32)), .val (.int p4), .val (.int (0 : Int32)), .val (.int (8 : Int32)), .val (.int (4 : Int32)), .val (.int (8202 : Int32))]) rfl k) ?_
      show Goes p e below (s₁.setTop (mkF m 24 #[.val (.ref a1), .val (.int (0 : Int32)), .val (.int (20 : Int32)), .val (.int p4), .val (.int (0 : Int32)), .val (.int (8 : Int32)), .val (.int (4 : Int32)), .val (.int (8202 : Int32))] [])) _
      refine Goes.via (fun t k => XS.aloadN X0.here hx rfl (hb hby d3_24) rfl rfl k) ?_
      show Goes p e below (s₁.setTop (mkF m 25 #[.val (.ref a1), .val (.int (0 : Int32)), .val (.int (20 : Int32)), .val (.int p4), .val (.int (0 : Int32)), .val (.int (8 : Int32)), .val (.int (4 : Int32)), .val (.int (8202 : Int32))] [(.ref a1)])) _
      refine Goes.via (fun t k => XS.iload X0.here hx rfl (hb hby d3_25) rfl k) ?_
      show Goes p e below (s₁.setTop (mkF m 27 #[.val (.ref a1), .val (.int (0 : Int32)), .val (.int (20 : Int32)), .val (.int p4), .val (.int (0 : Int32)), .val (.int (8 : Int32)), .val (.int (4 : Int32)), .val (.int (8202 : Int32))] [(.int (4 : Int32)), (.ref a1)])) _
      obtain ⟨cl26, Ar26, qa26, Sa26, Na26, Ha26, Ga26⟩ := id V1
      have hin26 : ¬ ((4 : Int32) < 0 ∨ cl26.slots.size ≤ ((4 : Int32)).toNatClampNeg) := inb_of Sa26 ⟨by decide, by decide⟩
      have hat26 : cl26.slots[((4 : Int32)).toNatClampNeg]? = some (.int (160 : Int32)) := Ha26.at hin26 rfl
      refine Goes.via (fun t k => X0.iaload hx (j := (4 : Int32)) (v := (.int (160 : Int32))) (by rw [e0]; exact Ar26.1) (State.isArrayOf_alike hZ.alike Ar26.2.1) Ar26.2.2 hin26 hat26 (g := (mkF m 27 #[.val (.ref a1), .val (.int (0 : Int32)), .val (.int (20 : Int32)), .val (.int p4), .val (.int (0 : Int32)), .val (.int (8 : Int32)), .val (.int (4 : Int32)), .val (.int (8202 : Int32))] [(.int (4 : Int32)), (.ref a1)])) rfl rfl (hb hby d3_27) _ k) ?_
      show Goes p e below (s₁.setTop (mkF m 28 #[.val (.ref a1), .val (.int (0 : Int32)), .val (.int (20 : Int32)), .val (.int p4), .val (.int (0 : Int32)), .val (.int (8 : Int32)), .val (.int (4 : Int32)), .val (.int (8202 : Int32))] [(.int (160 : Int32))])) _
      refine Goes.via (fun t k => XS.istore X0.here hx rfl (hb hby d3_28) rfl (l' := #[.val (.ref a1), .val (.int (0 : Int32)), .val (.int (20 : Int32)), .val (.int p4), .val (.int (0 : Int32)), .val (.int (8 : Int32)), .val (.int (4 : Int32)), .val (.int (160 : Int32))]) rfl k) ?_
      show Goes p e below (s₁.setTop (mkF m 30 #[.val (.ref a1), .val (.int (0 : Int32)), .val (.int (20 : Int32)), .val (.int p4), .val (.int (0 : Int32)), .val (.int (8 : Int32)), .val (.int (4 : Int32)), .val (.int (160 : Int32))] [])) _
      refine Goes.via (fun t k => XS.iload X0.here hx rfl (hb hby d3_30) rfl k) ?_
      show Goes p e below (s₁.setTop (mkF m 32 #[.val (.ref a1), .val (.int (0 : Int32)), .val (.int (20 : Int32)), .val (.int p4), .val (.int (0 : Int32)), .val (.int (8 : Int32)), .val (.int (4 : Int32)), .val (.int (160 : Int32))] [(.int (160 : Int32))])) _
      refine Goes.via (fun t k => XS.iloadN X0.here hx rfl (hb hby d3_32) rfl k) ?_
      show Goes p e below (s₁.setTop (mkF m 33 #[.val (.ref a1), .val (.int (0 : Int32)), .val (.int (20 : Int32)), .val (.int p4), .val (.int (0 : Int32)), .val (.int (8 : Int32)), .val (.int (4 : Int32)), .val (.int (160 : Int32))] [(.int p4), (.int (160 : Int32))])) _
      by_cases hc33_27 : (160 : Int32) < p4
      · refine Goes.via (fun t k => XS.icmpNo X0.here hx rfl (hb hby d3_33) rfl (tlt hc33_27).2.1 k) ?_
        show Goes p e below (s₁.setTop (mkF m 36 #[.val (.ref a1), .val (.int (0 : Int32)), .val (.int (20 : Int32)), .val (.int p4), .val (.int (0 : Int32)), .val (.int (8 : Int32)), .val (.int (4 : Int32)), .val (.int (160 : Int32))] [])) _
        refine Goes.via (fun t k => XS.iload X0.here hx rfl (hb hby d3_36) rfl k) ?_
        show Goes p e below (s₁.setTop (mkF m 38 #[.val (.ref a1), .val (.int (0 : Int32)), .val (.int (20 : Int32)), .val (.int p4), .val (.int (0 : Int32)), .val (.int (8 : Int32)), .val (.int (4 : Int32)), .val (.int (160 : Int32))] [(.int (4 : Int32))])) _
        refine Goes.via (fun t k => XS.iconst X0.here hx rfl (hb hby d3_38) k) ?_
        show Goes p e below (s₁.setTop (mkF m 39 #[.val (.ref a1), .val (.int (0 : Int32)), .val (.int (20 : Int32)), .val (.int p4), .val (.int (0 : Int32)), .val (.int (8 : Int32)), .val (.int (4 : Int32)), .val (.int (160 : Int32))] [(.int (1 : Int32)), (.int (4 : Int32))])) _
        refine Goes.via (fun t k => XS.iadd X0.here hx rfl (hb hby d3_39) rfl k) ?_
        show Goes p e below (s₁.setTop (mkF m 40 #[.val (.ref a1), .val (.int (0 : Int32)), .val (.int (20 : Int32)), .val (.int p4), .val (.int (0 : Int32)), .val (.int (8 : Int32)), .val (.int (4 : Int32)), .val (.int (160 : Int32))] [(.int (5 : Int32))])) _
        refine Goes.via (fun t k => XS.istore X0.here hx rfl (hb hby d3_40) rfl (l' := #[.val (.ref a1), .val (.int (0 : Int32)), .val (.int (20 : Int32)), .val (.int p4), .val (.int (5 : Int32)), .val (.int (8 : Int32)), .val (.int (4 : Int32)), .val (.int (160 : Int32))]) rfl k) ?_
        show Goes p e below (s₁.setTop (mkF m 42 #[.val (.ref a1), .val (.int (0 : Int32)), .val (.int (20 : Int32)), .val (.int p4), .val (.int (5 : Int32)), .val (.int (8 : Int32)), .val (.int (4 : Int32)), .val (.int (160 : Int32))] [])) _
        refine Goes.via (fun t k => XS.goto X0.here hx rfl (pc0 := 42) (pc' := 63) rfl (hb hby d3_42) (by decide) (by decide) k) ?_
        show Goes p e below (s₁.setTop (mkF m 63 #[.val (.ref a1), .val (.int (0 : Int32)), .val (.int (20 : Int32)), .val (.int p4), .val (.int (5 : Int32)), .val (.int (8 : Int32)), .val (.int (4 : Int32)), .val (.int (160 : Int32))] [])) _
        refine Goes.via (fun t k => XS.goto X0.here hx rfl (pc0 := 63) (pc' := 8) rfl (hb hby d3_63) (by decide) (by decide) k) ?_
        show Goes p e below (s₁.setTop (mkF m 8 #[.val (.ref a1), .val (.int (0 : Int32)), .val (.int (20 : Int32)), .val (.int p4), .val (.int (5 : Int32)), .val (.int (8 : Int32)), .val (.int (4 : Int32)), .val (.int (160 : Int32))] [])) _
        refine Goes.via (fun t k => XS.iload X0.here hx rfl (hb hby d3_8) rfl k) ?_
        show Goes p e below (s₁.setTop (mkF m 10 #[.val (.ref a1), .val (.int (0 : Int32)), .val (.int (20 : Int32)), .val (.int p4), .val (.int (5 : Int32)), .val (.int (8 : Int32)), .val (.int (4 : Int32)), .val (.int (160 : Int32))] [(.int (5 : Int32))])) _
        refine Goes.via (fun t k => XS.iload X0.here hx rfl (hb hby d3_10) rfl k) ?_
        show Goes p e below (s₁.setTop (mkF m 12 #[.val (.ref a1), .val (.int (0 : Int32)), .val (.int (20 : Int32)), .val (.int p4), .val (.int (5 : Int32)), .val (.int (8 : Int32)), .val (.int (4 : Int32)), .val (.int (160 : Int32))] [(.int (8 : Int32)), (.int (5 : Int32))])) _
        refine Goes.via (fun t k => XS.icmpNo X0.here hx rfl (hb hby d3_12) rfl (flt (show ¬ ((8 : Int32) < (5 : Int32)) from (by decide))).2.2.1 k) ?_
        show Goes p e below (s₁.setTop (mkF m 15 #[.val (.ref a1), .val (.int (0 : Int32)), .val (.int (20 : Int32)), .val (.int p4), .val (.int (5 : Int32)), .val (.int (8 : Int32)), .val (.int (4 : Int32)), .val (.int (160 : Int32))] [])) _
        refine Goes.via (fun t k => XS.iload X0.here hx rfl (hb hby d3_15) rfl k) ?_
        show Goes p e below (s₁.setTop (mkF m 17 #[.val (.ref a1), .val (.int (0 : Int32)), .val (.int (20 : Int32)), .val (.int p4), .val (.int (5 : Int32)), .val (.int (8 : Int32)), .val (.int (4 : Int32)), .val (.int (160 : Int32))] [(.int (5 : Int32))])) _
        refine Goes.via (fun t k => XS.iload X0.here hx rfl (hb hby d3_17) rfl k) ?_
        show Goes p e below (s₁.setTop (mkF m 19 #[.val (.ref a1), .val (.int (0 : Int32)), .val (.int (20 : Int32)), .val (.int p4), .val (.int (5 : Int32)), .val (.int (8 : Int32)), .val (.int (4 : Int32)), .val (.int (160 : Int32))] [(.int (8 : Int32)), (.int (5 : Int32))])) _
        refine Goes.via (fun t k => XS.iadd X0.here hx rfl (hb hby d3_19) rfl k) ?_
        show Goes p e below (s₁.setTop (mkF m 20 #[.val (.ref a1), .val (.int (0 : Int32)), .val (.int (20 : Int32)), .val (.int p4), .val (.int (5 : Int32)), .val (.int (8 : Int32)), .val (.int (4 : Int32)), .val (.int (160 : Int32))] [(.int (13 : Int32))])) _
        refine Goes.via (fun t k => XS.iconst X0.here hx rfl (hb hby d3_20) k) ?_
        show Goes p e below (s₁.setTop (mkF m 21 #[.val (.ref a1), .val (.int (0 : Int32)), .val (.int (20 : Int32)), .val (.int p4), .val (.int (5 : Int32)), .val (.int (8 : Int32)), .val (.int (4 : Int32)), .val (.int (160 : Int32))] [(.int (1 : Int32)), (.int (13 : Int32))])) _
        refine Goes.via (fun t k => XS.iushr X0.here hx rfl (hb hby d3_21) rfl k) ?_
        show Goes p e below (s₁.setTop (mkF m 22 #[.val (.ref a1), .val (.int (0 : Int32)), .val (.int (20 : Int32)), .val (.int p4), .val (.int (5 : Int32)), .val (.int (8 : Int32)), .val (.int (4 : Int32)), .val (.int (160 : Int32))] [(.int (6 : Int32))])) _
        refine Goes.via (fun t k => XS.istore X0.here hx rfl (hb hby d3_22) rfl (l' := #[.val (.ref a1), .val (.int (0 : Int32)), .val (.int (20 : Int32)), .val (.int p4), .val (.int (5 : Int32)), .val (.int (8 : Int32)), .val (.int (6 : Int32)), .val (.int (160 : Int32))]) rfl k) ?_
        show Goes p e below (s₁.setTop (mkF m 24 #[.val (.ref a1), .val (.int (0 : Int32)), .val (.int (20 : Int32)), .val (.int p4), .val (.int (5 : Int32)), .val (.int (8 : Int32)), .val (.int (6 : Int32)), .val (.int (160 : Int32))] [])) _
        refine Goes.via (fun t k => XS.aloadN X0.here hx rfl (hb hby d3_24) rfl rfl k) ?_
        show Goes p e below (s₁.setTop (mkF m 25 #[.val (.ref a1), .val (.int (0 : Int32)), .val (.int (20 : Int32)), .val (.int p4), .val (.int (5 : Int32)), .val (.int (8 : Int32)), .val (.int (6 : Int32)), .val (.int (160 : Int32))] [(.ref a1)])) _
        refine Goes.via (fun t k => XS.iload X0.here hx rfl (hb hby d3_25) rfl k) ?_
        show Goes p e below (s₁.setTop (mkF m 27 #[.val (.ref a1), .val (.int (0 : Int32)), .val (.int (20 : Int32)), .val (.int p4), .val (.int (5 : Int32)), .val (.int (8 : Int32)), .val (.int (6 : Int32)), .val (.int (160 : Int32))] [(.int (6 : Int32)), (.ref a1)])) _
        obtain ⟨cl28, Ar28, qa28, Sa28, Na28, Ha28, Ga28⟩ := id V1
        have hin28 : ¬ ((6 : Int32) < 0 ∨ cl28.slots.size ≤ ((6 : Int32)).toNatClampNeg) := inb_of Sa28 ⟨by decide, by decide⟩
        have hat28 : cl28.slots[((6 : Int32)).toNatClampNeg]? = some (.int (5760 : Int32)) := Ha28.at hin28 rfl
        refine Goes.via (fun t k => X0.iaload hx (j := (6 : Int32)) (v := (.int (5760 : Int32))) (by rw [e0]; exact Ar28.1) (State.isArrayOf_alike hZ.alike Ar28.2.1) Ar28.2.2 hin28 hat28 (g := (mkF m 27 #[.val (.ref a1), .val (.int (0 : Int32)), .val (.int (20 : Int32)), .val (.int p4), .val (.int (5 : Int32)), .val (.int (8 : Int32)), .val (.int (6 : Int32)), .val (.int (160 : Int32))] [(.int (6 : Int32)), (.ref a1)])) rfl rfl (hb hby d3_27) _ k) ?_
        show Goes p e below (s₁.setTop (mkF m 28 #[.val (.ref a1), .val (.int (0 : Int32)), .val (.int (20 : Int32)), .val (.int p4), .val (.int (5 : Int32)), .val (.int (8 : Int32)), .val (.int (6 : Int32)), .val (.int (160 : Int32))] [(.int (5760 : Int32))])) _
        refine Goes.via (fun t k => XS.istore X0.here hx rfl (hb hby d3_28) rfl (l' := #[.val (.ref a1), .val (.int (0 : Int32)), .val (.int (20 : Int32)), .val (.int p4), .val (.int (5 : Int32)), .val (.int (8 : Int32)), .val (.int (6 : Int32)), .val (.int (5760 : Int32))]) rfl k) ?_
        show Goes p e below (s₁.setTop (mkF m 30 #[.val (.ref a1), .val (.int (0 : Int32)), .val (.int (20 : Int32)), .val (.int p4), .val (.int (5 : Int32)), .val (.int (8 : Int32)), .val (.int (6 : Int32)), .val (.int (5760 : Int32))] [])) _
        refine Goes.via (fun t k => XS.iload X0.here hx rfl (hb hby d3_30) rfl k) ?_
        show Goes p e below (s₁.setTop (mkF m 32 #[.val (.ref a1), .val (.int (0 : Int32)), .val (.int (20 : Int32)), .val (.int p4), .val (.int (5 : Int32)), .val (.int (8 : Int32)), .val (.int (6 : Int32)), .val (.int (5760 : Int32))] [(.int (5760 : Int32))])) _
        refine Goes.via (fun t k => XS.iloadN X0.here hx rfl (hb hby d3_32) rfl k) ?_
        show Goes p e below (s₁.setTop (mkF m 33 #[.val (.ref a1), .val (.int (0 : Int32)), .val (.int (20 : Int32)), .val (.int p4), .val (.int (5 : Int32)), .val (.int (8 : Int32)), .val (.int (6 : Int32)), .val (.int (5760 : Int32))] [(.int p4), (.int (5760 : Int32))])) _
        by_cases hc33_29 : (5760 : Int32) < p4
        · refine Goes.via (fun t k => XS.icmpNo X0.here hx rfl (hb hby d3_33) rfl (tlt hc33_29).2.1 k) ?_
          show Goes p e below (s₁.setTop (mkF m 36 #[.val (.ref a1), .val (.int (0 : Int32)), .val (.int (20 : Int32)), .val (.int p4), .val (.int (5 : Int32)), .val (.int (8 : Int32)), .val (.int (6 : Int32)), .val (.int (5760 : Int32))] [])) _
          refine Goes.via (fun t k => XS.iload X0.here hx rfl (hb hby d3_36) rfl k) ?_
          show Goes p e below (s₁.setTop (mkF m 38 #[.val (.ref a1), .val (.int (0 : Int32)), .val (.int (20 : Int32)), .val (.int p4), .val (.int (5 : Int32)), .val (.int (8 : Int32)), .val (.int (6 : Int32)), .val (.int (5760 : Int32))] [(.int (6 : Int32))])) _
          refine Goes.via (fun t k => XS.iconst X0.here hx rfl (hb hby d3_38) k) ?_
          show Goes p e below (s₁.setTop (mkF m 39 #[.val (.ref a1), .val (.int (0 : Int32)), .val (.int (20 : Int32)), .val (.int p4), .val (.int (5 : Int32)), .val (.int (8 : Int32)), .val (.int (6 : Int32)), .val (.int (5760 : Int32))] [(.int (1 : Int32)), (.int (6 : Int32))])) _
          refine Goes.via (fun t k => XS.iadd X0.here hx rfl (hb hby d3_39) rfl k) ?_
          show Goes p e below (s₁.setTop (mkF m 40 #[.val (.ref a1), .val (.int (0 : Int32)), .val (.int (20 : Int32)), .val (.int p4), .val (.int (5 : Int32)), .val (.int (8 : Int32)), .val (.int (6 : Int32)), .val (.int (5760 : Int32))] [(.int (7 : Int32))])) _
          refine Goes.via (fun t k => XS.istore X0.here hx rfl (hb hby d3_40) rfl (l' := #[.val (.ref a1), .val (.int (0 : Int32)), .val (.int (20 : Int32)), .val (.int p4), .val (.int (7 : Int32)), .val (.int (8 : Int32)), .val (.int (6 : Int32)), .val (.int (5760 : Int32))]) rfl k) ?_
          show Goes p e below (s₁.setTop (mkF m 42 #[.val (.ref a1), .val (.int (0 : Int32)), .val (.int (20 : Int32)), .val (.int p4), .val (.int (7 : Int32)), .val (.int (8 : Int32)), .val (.int (6 : Int32)), .val (.int (5760 : Int32))] [])) _
          refine Goes.via (fun t k => XS.goto X0.here hx rfl (pc0 := 42) (pc' := 63) rfl (hb hby d3_42) (by decide) (by decide) k) ?_
          show Goes p e below (s₁.setTop (mkF m 63 #[.val (.ref a1), .val (.int (0 : Int32)), .val (.int (20 : Int32)), .val (.int p4), .val (.int (7 : Int32)), .val (.int (8 : Int32)), .val (.int (6 : Int32)), .val (.int (5760 : Int32))] [])) _
          refine Goes.via (fun t k => XS.goto X0.here hx rfl (pc0 := 63) (pc' := 8) rfl (hb hby d3_63) (by decide) (by decide) k) ?_
          show Goes p e below (s₁.setTop (mkF m 8 #[.val (.ref a1), .val (.int (0 : Int32)), .val (.int (20 : Int32)), .val (.int p4), .val (.int (7 : Int32)), .val (.int (8 : Int32)), .val (.int (6 : Int32)), .val (.int (5760 : Int32))] [])) _
          refine Goes.via (fun t k => XS.iload X0.here hx rfl (hb hby d3_8) rfl k) ?_
          show Goes p e below (s₁.setTop (mkF m 10 #[.val (.ref a1), .val (.int (0 : Int32)), .val (.int (20 : Int32)), .val (.int p4), .val (.int (7 : Int32)), .val (.int (8 : Int32)), .val (.int (6 : Int32)), .val (.int (5760 : Int32))] [(.int (7 : Int32))])) _
          refine Goes.via (fun t k => XS.iload X0.here hx rfl (hb hby d3_10) rfl k) ?_
          show Goes p e below (s₁.setTop (mkF m 12 #[.val (.ref a1), .val (.int (0 : Int32)), .val (.int (20 : Int32)), .val (.int p4), .val (.int (7 : Int32)), .val (.int (8 : Int32)), .val (.int (6 : Int32)), .val (.int (5760 : Int32))] [(.int (8 : Int32)), (.int (7 : Int32))])) _
          refine Goes.via (fun t k => XS.icmpNo X0.here hx rfl (hb hby d3_12) rfl (flt (show ¬ ((8 : Int32) < (7 : Int32)) from (by decide))).2.2.1 k) ?_
          show Goes p e below (s₁.setTop (mkF m 15 #[.val (.ref a1), .val (.int (0 : Int32)), .val (.int (20 : Int32)), .val (.int p4), .val (.int (7 : Int32)), .val (.int (8 : Int32)), .val (.int (6 : Int32)), .val (.int (5760 : Int32))] [])) _
          refine Goes.via (fun t k => XS.iload X0.here hx rfl (hb hby d3_15) rfl k) ?_
          show Goes p e below (s₁.setTop (mkF m 17 #[.val (.ref a1), .val (.int (0 : Int32)), .val (.int (20 : Int32)), .val (.int p4), .val (.int (7 : Int32)), .val (.int (8 : Int32)), .val (.int (6 : Int32)), .val (.int (5760 : Int32))] [(.int (7 : Int32))])) _
          refine Goes.via (fun t k => XS.iload X0.here hx rfl (hb hby d3_17) rfl k) ?_
          show Goes p e below (s₁.setTop (mkF m 19 #[.val (.ref a1), .val (.int (0 : Int32)), .val (.int (20 : Int32)), .val (.int p4), .val (.int (7 : Int32)), .val (.int (8 : Int32)), .val (.int (6 : Int32)), .val (.int (5760 : Int32))] [(.int (8 : Int32)), (.int (7 : Int32))])) _
          refine Goes.via (fun t k => XS.iadd X0.here hx rfl (hb hby d3_19) rfl k) ?_
          show Goes p e below (s₁.setTop (mkF m 20 #[.val (.ref a1), .val (.int (0 : Int32)), .val (.int (20 : Int32)), .val (.int p4), .val (.int (7 : Int32)), .val (.int (8 : Int32)), .val (.int (6 : Int32)), .val (.int (5760 : Int32))] [(.int (15 : Int32))])) _
          refine Goes.via (fun t k => XS.iconst X0.here hx rfl (hb hby d3_20) k) ?_
          show Goes p e below (s₁.setTop (mkF m 21 #[.val (.ref a1), .val (.int (0 : Int32)), .val (.int (20 : Int32)), .val (.int p4), .val (.int (7 : Int32)), .val (.int (8 : Int32)), .val (.int (6 : Int32)), .val (.int (5760 : Int32))] [(.int (1 : Int32)), (.int (15 : Int32))])) _
          refine Goes.via (fun t k => XS.iushr X0.here hx rfl (hb hby d3_21) rfl k) ?_
          show Goes p e below (s₁.setTop (mkF m 22 #[.val (.ref a1), .val (.int (0 : Int32)), .val (.int (20 : Int32)), .val (.int p4), .val (.int (7 : Int32)), .val (.int (8 : Int32)), .val (.int (6 : Int32)), .val (.int (5760 : Int32))] [(.int (7 : Int32))])) _
          refine Goes.via (fun t k => XS.istore X0.here hx rfl (hb hby d3_22) rfl (l' := #[.val (.ref a1), .val (.int (0 : Int32)), .val (.int (20 : Int32)), .val (.int p4), .val (.int (7 : Int32)), .val (.int (8 : Int32)), .val (.int (7 : Int32)), .val (.int (5760 : Int32))]) rfl k) ?_
          show Goes p e below (s₁.setTop (mkF m 24 #[.val (.ref a1), .val (.int (0 : Int32)), .val (.int (20 : Int32)), .val (.int p4), .val (.int (7 : Int32)), .val (.int (8 : Int32)), .val (.int (7 : Int32)), .val (.int (5760 : Int32))] [])) _
          refine Goes.via (fun t k => XS.aloadN X0.here hx rfl (hb hby d3_24) rfl rfl k) ?_
          show Goes p e below (s₁.setTop (mkF m 25 #[.val (.ref a1), .val (.int (0 : Int32)), .val (.int (20 : Int32)), .val (.int p4), .val (.int (7 : Int32)), .val (.int (8 : Int32)), .val (.int (7 : Int32)), .val (.int (5760 : Int32))] [(.ref a1)])) _
          refine Goes.via (fun t k => XS.iload X0.here hx rfl (hb hby d3_25) rfl k) ?_
          show Goes p e below (s₁.setTop (mkF m 27 #[.val (.ref a1), .val (.int (0 : Int32)), .val (.int (20 : Int32)), .val (.int p4), .val (.int (7 : Int32)), .val (.int (8 : Int32)), .val (.int (7 : Int32)), .val (.int (5760 : Int32))] [(.int (7 : Int32)), (.ref a1)])) _
          obtain ⟨cl30, Ar30, qa30, Sa30, Na30, Ha30, Ga30⟩ := id V1
          have hin30 : ¬ ((7 : Int32) < 0 ∨ cl30.slots.size ≤ ((7 : Int32)).toNatClampNeg) := inb_of Sa30 ⟨by decide, by decide⟩
          have hat30 : cl30.slots[((7 : Int32)).toNatClampNeg]? = some (.int (5760 : Int32)) := Ha30.at hin30 rfl
          refine Goes.via (fun t k => X0.iaload hx (j := (7 : Int32)) (v := (.int (5760 : Int32))) (by rw [e0]; exact Ar30.1) (State.isArrayOf_alike hZ.alike Ar30.2.1) Ar30.2.2 hin30 hat30 (g := (mkF m 27 #[.val (.ref a1), .val (.int (0 : Int32)), .val (.int (20 : Int32)), .val (.int p4), .val (.int (7 : Int32)), .val (.int (8 : Int32)), .val (.int (7 : Int32)), .val (.int (5760 : Int32))] [(.int (7 : Int32)), (.ref a1)])) rfl rfl (hb hby d3_27) _ k) ?_
          show Goes p e below (s₁.setTop (mkF m 28 #[.val (.ref a1), .val (.int (0 : Int32)), .val (.int (20 : Int32)), .val (.int p4), .val (.int (7 : Int32)), .val (.int (8 : Int32)), .val (.int (7 : Int32)), .val (.int (5760 : Int32))] [(.int (5760 : Int32))])) _
          refine Goes.via (fun t k => XS.istore X0.here hx rfl (hb hby d3_28) rfl (l' := #[.val (.ref a1), .val (.int (0 : Int32)), .val (.int (20 : Int32)), .val (.int p4), .val (.int (7 : Int32)), .val (.int (8 : Int32)), .val (.int (7 : Int32)), .val (.int (5760 : Int32))]) rfl k) ?_
          show Goes p e below (s₁.setTop (mkF m 30 #[.val (.ref a1), .val (.int (0 : Int32)), .val (.int (20 : Int32)), .val (.int p4), .val (.int (7 : Int32)), .val (.int (8 : Int32)), .val (.int (7 : Int32)), .val (.int (5760 : Int32))] [])) _
          refine Goes.via (fun t k => XS.iload X0.here hx rfl (hb hby d3_30) rfl k) ?_
          show Goes p e below (s₁.setTop (mkF m 32 #[.val (.ref a1), .val (.int (0 : Int32)), .val (.int (20 : Int32)), .val (.int p4), .val (.int (7 : Int32)), .val (.int (8 : Int32)), .val (.int (7 : Int32)), .val (.int (5760 : Int32))] [(.int (5760 : Int32))])) _
          refine Goes.via (fun t k => XS.iloadN X0.here hx rfl (hb hby d3_32) rfl k) ?_
          show Goes p e below (s₁.setTop (mkF m 33 #[.val (.ref a1), .val (.int (0 : Int32)), .val (.int (20 : Int32)), .val (.int p4), .val (.int (7 : Int32)), .val (.int (8 : Int32)), .val (.int (7 : Int32)), .val (.int (5760 : Int32))] [(.int p4), (.int (5760 : Int32))])) _
          refine Goes.via (fun t k => XS.icmpNo X0.here hx rfl (hb hby d3_33) rfl (tlt hc33_29).2.1 k) ?_
          show Goes p e below (s₁.setTop (mkF m 36 #[.val (.ref a1), .val (.int (0 : Int32)), .val (.int (20 : Int32)), .val (.int p4), .val (.int (7 : Int32)), .val (.int (8 : Int32)), .val (.int (7 : Int32)), .val (.int (5760 : Int32))] [])) _
          refine Goes.via (fun t k => XS.iload X0.here hx rfl (hb hby d3_36) rfl k) ?_
          show Goes p e below (s₁.setTop (mkF m 38 #[.val (.ref a1), .val (.int (0 : Int32)), .val (.int (20 : Int32)), .val (.int p4), .val (.int (7 : Int32)), .val (.int (8 : Int32)), .val (.int (7 : Int32)), .val (.int (5760 : Int32))] [(.int (7 : Int32))])) _
          refine Goes.via (fun t k => XS.iconst X0.here hx rfl (hb hby d3_38) k) ?_
          show Goes p e below (s₁.setTop (mkF m 39 #[.val (.ref a1), .val (.int (0 : Int32)), .val (.int (20 : Int32)), .val (.int p4), .val (.int (7 : Int32)), .val (.int (8 : Int32)), .val (.int (7 : Int32)), .val (.int (5760 : Int32))] [(.int (1 : Int32)), (.int (7 : Int32))])) _
          refine Goes.via (fun t k => XS.iadd X0.here hx rfl (hb hby d3_39) rfl k) ?_
          show Goes p e below (s₁.setTop (mkF m 40 #[.val (.ref a1), .val (.int (0 : Int32)), .val (.int (20 : Int32)), .val (.int p4), .val (.int (7 : Int32)), .val (.int (8 : Int32)), .val (.int (7 : Int32)), .val (.int (5760 : Int32))] [(.int (8 : Int32))])) _
          refine Goes.via (fun t k => XS.istore X0.here hx rfl (hb hby d3_40) rfl (l' := #[.val (.ref a1), .val (.int (0 : Int32)), .val (.int (20 : Int32)), .val (.int p4), .val (.int (8 : Int32)), .val (.int (8 : Int32)), .val (.int (7 : Int32)), .val (.int (5760 : Int32))]) rfl k) ?_
          show Goes p e below (s₁.setTop (mkF m 42 #[.val (.ref a1), .val (.int (0 : Int32)), .val (.int (20 : Int32)), .val (.int p4), .val (.int (8 : Int32)), .val (.int (8 : Int32)), .val (.int (7 : Int32)), .val (.int (5760 : Int32))] [])) _
          refine Goes.via (fun t k => XS.goto X0.here hx rfl (pc0 := 42) (pc' := 63) rfl (hb hby d3_42) (by decide) (by decide) k) ?_
          show Goes p e below (s₁.setTop (mkF m 63 #[.val (.ref a1), .val (.int (0 : Int32)), .val (.int (20 : Int32)), .val (.int p4), .val (.int (8 : Int32)), .val (.int (8 : Int32)), .val (.int (7 : Int32)), .val (.int (5760 : Int32))] [])) _
          refine Goes.via (fun t k => XS.goto X0.here hx rfl (pc0 := 63) (pc' := 8) rfl (hb hby d3_63) (by decide) (by decide) k) ?_
          show Goes p e below (s₁.setTop (mkF m 8 #[.val (.ref a1), .val (.int (0 : Int32)), .val (.int (20 : Int32)), .val (.int p4), .val (.int (8 : Int32)), .val (.int (8 : Int32)), .val (.int (7 : Int32)), .val (.int (5760 : Int32))] [])) _
          refine Goes.via (fun t k => XS.iload X0.here hx rfl (hb hby d3_8) rfl k) ?_
          show Goes p e below (s₁.setTop (mkF m 10 #[.val (.ref a1), .val (.int (0 : Int32)), .val (.int (20 : Int32)), .val (.int p4), .val (.int (8 : Int32)), .val (.int (8 : Int32)), .val (.int (7 : Int32)), .val (.int (5760 : Int32))] [(.int (8 : Int32))])) _
          refine Goes.via (fun t k => XS.iload X0.here hx rfl (hb hby d3_10) rfl k) ?_
          show Goes p e below (s₁.setTop (mkF m 12 #[.val (.ref a1), .val (.int (0 : Int32)), .val (.int (20 : Int32)), .val (.int p4), .val (.int (8 : Int32)), .val (.int (8 : Int32)), .val (.int (7 : Int32)), .val (.int (5760 : Int32))] [(.int (8 : Int32)), (.int (8 : Int32))])) _
          refine Goes.via (fun t k => XS.icmpNo X0.here hx rfl (hb hby d3_12) rfl (flt (show ¬ ((8 : Int32) < (8 : Int32)) from (by decide))).2.2.1 k) ?_
          show Goes p e below (s₁.setTop (mkF m 15 #[.val (.ref a1), .val (.int (0 : Int32)), .val (.int (20 : Int32)), .val (.int p4), .val (.int (8 : Int32)), .val (.int (8 : Int32)), .val (.int (7 : Int32)), .val (.int (5760 : Int32))] [])) _
          refine Goes.via (fun t k => XS.iload X0.here hx rfl (hb hby d3_15) rfl k) ?_
          show Goes p e below (s₁.setTop (mkF m 17 #[.val (.ref a1), .val (.int (0 : Int32)), .val (.int (20 : Int32)), .val (.int p4), .val (.int (8 : Int32)), .val (.int (8 : Int32)), .val (.int (7 : Int32)), .val (.int (5760 : Int32))] [(.int (8 : Int32))])) _
          refine Goes.via (fun t k => XS.iload X0.here hx rfl (hb hby d3_17) rfl k) ?_
          show Goes p e below (s₁.setTop (mkF m 19 #[.val (.ref a1), .val (.int (0 : Int32)), .val (.int (20 : Int32)), .val (.int p4), .val (.int (8 : Int32)), .val (.int (8 : Int32)), .val (.int (7 : Int32)), .val (.int (5760 : Int32))] [(.int (8 : Int32)), (.int (8 : Int32))])) _
          refine Goes.via (fun t k => XS.iadd X0.here hx rfl (hb hby d3_19) rfl k) ?_
          show Goes p e below (s₁.setTop (mkF m 20 #[.val (.ref a1), .val (.int (0 : Int32)), .val (.int (20 : Int32)), .val (.int p4), .val (.int (8 : Int32)), .val (.int (8 : Int32)), .val (.int (7 : Int32)), .val (.int (5760 : Int32))] [(.int (16 : Int32))])) _
          refine Goes.via (fun t k => XS.iconst X0.here hx rfl (hb hby d3_20) k) ?_
          show Goes p e below (s₁.setTop (mkF m 21 #[.val (.ref a1), .val (.int (0 : Int32)), .val (.int (20 : Int32)), .val (.int p4), .val (.int (8 : Int32)), .val (.int (8 : Int32)), .val (.int (7 : Int32)), .val (.int (5760 : Int32))] [(.int (1 : Int32)), (.int (16 : Int32))])) _
          refine Goes.via (fun t k => XS.iushr X0.here hx rfl (hb hby d3_21) rfl k) ?_
          show Goes p e below (s₁.setTop (mkF m 22 #[.val (.ref a1), .val (.int (0 : Int32)), .val (.int (20 : Int32)), .val (.int p4), .val (.int (8 : Int32)), .val (.int (8 : Int32)), .val (.int (7 : Int32)), .val (.int (5760 : Int32))] [(.int (8 : Int32))])) _
          refine Goes.via (fun t k => XS.istore X0.here hx rfl (hb hby d3_22) rfl (l' := #[.val (.ref a1), .val (.int (0 : Int32)), .val (.int (20 : Int32)), .val (.int p4), .val (.int (8 : Int32)), .val (.int (8 : Int32)), .val (.int (8 : Int32)), .val (.int (5760 : Int32))]) rfl k) ?_
          show Goes p e below (s₁.setTop (mkF m 24 #[.val (.ref a1), .val (.int (0 : Int32)), .val (.int (20 : Int32)), .val (.int p4), .val (.int (8 : Int32)), .val (.int (8 : Int32)), .val (.int (8 : Int32)), .val (.int (5760 : Int32))] [])) _
          refine Goes.via (fun t k => XS.aloadN X0.here hx rfl (hb hby d3_24) rfl rfl k) ?_
          show Goes p e below (s₁.setTop (mkF m 25 #[.val (.ref a1), .val (.int (0 : Int32)), .val (.int (20 : Int32)), .val (.int p4), .val (.int (8 : Int32)), .val (.int (8 : Int32)), .val (.int (8 : Int32)), .val (.int (5760 : Int32))] [(.ref a1)])) _
          refine Goes.via (fun t k => XS.iload X0.here hx rfl (hb hby d3_25) rfl k) ?_
          show Goes p e below (s₁.setTop (mkF m 27 #[.val (.ref a1), .val (.int (0 : Int32)), .val (.int (20 : Int32)), .val (.int p4), .val (.int (8 : Int32)), .val (.int (8 : Int32)), .val (.int (8 : Int32)), .val (.int (5760 : Int32))] [(.int (8 : Int32)), (.ref a1)])) _
          obtain ⟨cl31, Ar31, qa31, Sa31, Na31, Ha31, Ga31⟩ := id V1
          have hin31 : ¬ ((8 : Int32) < 0 ∨ cl31.slots.size ≤ ((8 : Int32)).toNatClampNeg) := inb_of Sa31 ⟨by decide, by decide⟩
          have hat31 : cl31.slots[((8 : Int32)).toNatClampNeg]? = some (.int (8192 : Int32)) := Ha31.at hin31 rfl
          refine Goes.via (fun t k => X0.iaload hx (j := (8 : Int32)) (v := (.int (8192 : Int32))) (by rw [e0]; exact Ar31.1) (State.isArrayOf_alike hZ.alike Ar31.2.1) Ar31.2.2 hin31 hat31 (g := (mkF m 27 #[.val (.ref a1), .val (.int (0 : Int32)), .val (.int (20 : Int32)), .val (.int p4), .val (.int (8 : Int32)), .val (.int (8 : Int32)), .val (.int (8 : Int32)), .val (.int (5760 : Int32))] [(.int (8 : Int32)), (.ref a1)])) rfl rfl (hb hby d3_27) _ k) ?_
          show Goes p e below (s₁.setTop (mkF m 28 #[.val (.ref a1), .val (.int (0 : Int32)), .val (.int (20 : Int32)), .val (.int p4), .val (.int (8 : Int32)), .val (.int (8 : Int32)), .val (.int (8 : Int32)), .val (.int (5760 : Int32))] [(.int (8192 : Int32))])) _
          refine Goes.via (fun t k => XS.istore X0.here hx rfl (hb hby d3_28) rfl (l' := #[.val (.ref a1), .val (.int (0 : Int32)), .val (.int (20 : Int32)), .val (.int p4), .val (.int (8 : Int32)), .val (.int (8 : Int32)), .val (.int (8 : Int32)), .val (.int (8192 : Int32))]) rfl k) ?_
          show Goes p e below (s₁.setTop (mkF m 30 #[.val (.ref a1), .val (.int (0 : Int32)), .val (.int (20 : Int32)), .val (.int p4), .val (.int (8 : Int32)), .val (.int (8 : Int32)), .val (.int (8 : Int32)), .val (.int (8192 : Int32))] [])) _
          refine Goes.via (fun t k => XS.iload X0.here hx rfl (hb hby d3_30) rfl k) ?_
          show Goes p e below (s₁.setTop (mkF m 32 #[.val (.ref a1), .val (.int (0 : Int32)), .val (.int (20 : Int32)), .val (.int p4), .val (.int (8 : Int32)), .val (.int (8 : Int32)), .val (.int (8 : Int32)), .val (.int (8192 : Int32))] [(.int (8192 : Int32))])) _
          refine Goes.via (fun t k => XS.iloadN X0.here hx rfl (hb hby d3_32) rfl k) ?_
          show Goes p e below (s₁.setTop (mkF m 33 #[.val (.ref a1), .val (.int (0 : Int32)), .val (.int (20 : Int32)), .val (.int p4), .val (.int (8 : Int32)), .val (.int (8 : Int32)), .val (.int (8 : Int32)), .val (.int (8192 : Int32))] [(.int p4), (.int (8192 : Int32))])) _
          by_cases hc33_32 : (8192 : Int32) < p4
          · refine Goes.via (fun t k => XS.icmpNo X0.here hx rfl (hb hby d3_33) rfl (tlt hc33_32).2.1 k) ?_
            show Goes p e below (s₁.setTop (mkF m 36 #[.val (.ref a1), .val (.int (0 : Int32)), .val (.int (20 : Int32)), .val (.int p4), .val (.int (8 : Int32)), .val (.int (8 : Int32)), .val (.int (8 : Int32)), .val (.int (8192 : Int32))] [])) _
            refine Goes.via (fun t k => XS.iload X0.here hx rfl (hb hby d3_36) rfl k) ?_
            show Goes p e below (s₁.setTop (mkF m 38 #[.val (.ref a1), .val (.int (0 : Int32)), .val (.int (20 : Int32)), .val (.int p4), .val (.int (8 : Int32)), .val (.int (8 : Int32)), .val (.int (8 : Int32)), .val (.int (8192 : Int32))] [(.int (8 : Int32))])) _
            refine Goes.via (fun t k => XS.iconst X0.here hx rfl (hb hby d3_38) k) ?_
            show Goes p e below (s₁.setTop (mkF m 39 #[.val (.ref a1), .val (.int (0 : Int32)), .val (.int (20 : Int32)), .val (.int p4), .val (.int (8 : Int32)), .val (.int (8 : Int32)), .val (.int (8 : Int32)), .val (.int (8192 : Int32))] [(.int (1 : Int32)), (.int (8 : Int32))])) _
            refine Goes.via (fun t k => XS.iadd X0.here hx rfl (hb hby d3_39) rfl k) ?_
            show Goes p e below (s₁.setTop (mkF m 40 #[.val (.ref a1), .val (.int (0 : Int32)), .val (.int (20 : Int32)), .val (.int p4), .val (.int (8 : Int32)), .val (.int (8 : Int32)), .val (.int (8 : Int32)), .val (.int (8192 : Int32))] [(.int (9 : Int32))])) _
            refine Goes.via (fun t k => XS.istore X0.here hx rfl (hb hby d3_40) rfl (l' := #[.val (.ref a1), .val (.int (0 : Int32)), .val (.int (20 : Int32)), .val (.int p4), .val (.int (9 : Int32)), .val (.int (8 : Int32)), .val (.int (8 : Int32)), .val (.int (8192 : Int32))]) rfl k) ?_
            show Goes p e below (s₁.setTop (mkF m 42 #[.val (.ref a1), .val (.int (0 : Int32)), .val (.int (20 : Int32)), .val (.int p4), .val (.int (9 : Int32)), .val (.int (8 : Int32)), .val (.int (8 : Int32)), .val (.int (8192 : Int32))] [])) _
            refine Goes.via (fun t k => XS.goto X0.here hx rfl (pc0 := 42) (pc' := 63) rfl (hb hby d3_42) (by decide) (by decide) k) ?_
            show Goes p e below (s₁.setTop (mkF m 63 #[.val (.ref a1), .val (.int (0 : Int32)), .val (.int (20 : Int32)), .val (.int p4), .val (.int (9 : Int32)), .val (.int (8 : Int32)), .val (.int (8 : Int32)), .val (.int (8192 : Int32))] [])) _
            refine Goes.via (fun t k => XS.goto X0.here hx rfl (pc0 := 63) (pc' := 8) rfl (hb hby d3_63) (by decide) (by decide) k) ?_
            show Goes p e below (s₁.setTop (mkF m 8 #[.val (.ref a1), .val (.int (0 : Int32)), .val (.int (20 : Int32)), .val (.int p4), .val (.int (9 : Int32)), .val (.int (8 : Int32)), .val (.int (8 : Int32)), .val (.int (8192 : Int32))] [])) _
            refine Goes.via (fun t k => XS.iload X0.here hx rfl (hb hby d3_8) rfl k) ?_
            show Goes p e below (s₁.setTop (mkF m 10 #[.val (.ref a1), .val (.int (0 : Int32)), .val (.int (20 : Int32)), .val (.int p4), .val (.int (9 : Int32)), .val (.int (8 : Int32)), .val (.int (8 : Int32)), .val (.int (8192 : Int32))] [(.int (9 : Int32))])) _
            refine Goes.via (fun t k => XS.iload X0.here hx rfl (hb hby d3_10) rfl k) ?_
            show Goes p e below (s₁.setTop (mkF m 12 #[.val (.ref a1), .val (.int (0 : Int32)), .val (.int (20 : Int32)), .val (.int p4), .val (.int (9 : Int32)), .val (.int (8 : Int32)), .val (.int (8 : Int32)), .val (.int (8192 : Int32))] [(.int (8 : Int32)), (.int (9 : Int32))])) _
            refine Goes.via (fun t k => XS.icmpYes X0.here hx rfl (pc0 := 12) (pc' := 66) rfl (hb hby d3_12) rfl (tlt (show (8 : Int32) < (9 : Int32) from (by decide))).2.2.1 (by decide) (by decide) k) ?_
            show Goes p e below (s₁.setTop (mkF m 66 #[.val (.ref a1), .val (.int (0 : Int32)), .val (.int (20 : Int32)), .val (.int p4), .val (.int (9 : Int32)), .val (.int (8 : Int32)), .val (.int (8 : Int32)), .val (.int (8192 : Int32))] [])) _
            refine Goes.via (fun t k => XS.iload X0.here hx rfl (hb hby d3_66) rfl k) ?_
            show Goes p e below (s₁.setTop (mkF m 68 #[.val (.ref a1), .val (.int (0 : Int32)), .val (.int (20 : Int32)), .val (.int p4), .val (.int (9 : Int32)), .val (.int (8 : Int32)), .val (.int (8 : Int32)), .val (.int (8192 : Int32))] [(.int (9 : Int32))])) _
            refine Goes.via (fun t k => XS.iconst X0.here hx rfl (hb hby d3_68) k) ?_
            show Goes p e below (s₁.setTop (mkF m 69 #[.val (.ref a1), .val (.int (0 : Int32)), .val (.int (20 : Int32)), .val (.int p4), .val (.int (9 : Int32)), .val (.int (8 : Int32)), .val (.int (8 : Int32)), .val (.int (8192 : Int32))] [(.int (1 : Int32)), (.int (9 : Int32))])) _
            refine Goes.via (fun t k => XS.iadd X0.here hx rfl (hb hby d3_69) rfl k) ?_
            show Goes p e below (s₁.setTop (mkF m 70 #[.val (.ref a1), .val (.int (0 : Int32)), .val (.int (20 : Int32)), .val (.int p4), .val (.int (9 : Int32)), .val (.int (8 : Int32)), .val (.int (8 : Int32)), .val (.int (8192 : Int32))] [(.int (10 : Int32))])) _
            refine Goes.via (fun t k => XS.ineg X0.here hx rfl (hb hby d3_70) rfl k) ?_
            show Goes p e below (s₁.setTop (mkF m 71 #[.val (.ref a1), .val (.int (0 : Int32)), .val (.int (20 : Int32)), .val (.int p4), .val (.int (9 : Int32)), .val (.int (8 : Int32)), .val (.int (8 : Int32)), .val (.int (8192 : Int32))] [(.int (-10 : Int32))])) _
            obtain ⟨fs, hr, hrun, hended, hW, hsame⟩ := X0.leave (v := some (.int (-10 : Int32))) (fun h => by rw [Bd.returns] at h; cases h)
            refine ⟨_, _, ?_, hrun, hended, _, _, rfl, ?_, ⟨_, rfl⟩, hW, hsame.mono (by decide) (by decide)⟩
            · exact retI X0 hx Bd.returns (hb hby d3_71) hr
            · show Q3 Z a1 p4 h0 n0 _ s₁.heap _
              rw [e0]
              exact ⟨congrArg some (congrArg _ (by simp only [f3, if_neg hc33_2, if_pos hc48_25, if_pos hc33_27, if_pos hc33_29, if_pos hc33_32])), N0, rfl⟩
          · refine Goes.via (fun t k => XS.icmpYes X0.here hx rfl (pc0 := 33) (pc' := 45) rfl (hb hby d3_33) rfl (flt hc33_32).2.1 (by decide) (by decide) k) ?_
            show Goes p e below (s₁.setTop (mkF m 45 #[.val (.ref a1), .val (.int (0 : Int32)), .val (.int (20 : Int32)), .val (.int p4), .val (.int (8 : Int32)), .val (.int (8 : Int32)), .val (.int (8 : Int32)), .val (.int (8192 : Int32))] [])) _
            refine Goes.via (fun t k => XS.iload X0.here hx rfl (hb hby d3_45) rfl k) ?_
            show Goes p e below (s₁.setTop (mkF m 47 #[.val (.ref a1), .val (.int (0 : Int32)), .val (.int (20 : Int32)), .val (.int p4), .val (.int (8 : Int32)), .val (.int (8 : Int32)), .val (.int (8 : Int32)), .val (.int (8192 : Int32))] [(.int (8192 : Int32))])) _
            refine Goes.via (fun t k => XS.iloadN X0.here hx rfl (hb hby d3_47) rfl k) ?_
            show Goes p e below (s₁.setTop (mkF m 48 #[.val (.ref a1), .val (.int (0 : Int32)), .val (.int (20 : Int32)), .val (.int p4), .val (.int (8 : Int32)), .val (.int (8 : Int32)), .val (.int (8 : Int32)), .val (.int (8192 : Int32))] [(.int p4), (.int (8192 : Int32))])) _
            by_cases hc48_33 : p4 < (8192 : Int32)
            · refine Goes.via (fun t k => XS.icmpNo X0.here hx rfl (hb hby d3_48) rfl (tlt hc48_33).2.2.2 k) ?_
              show Goes p e below (s₁.setTop (mkF m 51 #[.val (.ref a1), .val (.int (0 : Int32)), .val (.int (20 : Int32)), .val (.int p4), .val (.int (8 : Int32)), .val (.int (8 : Int32)), .val (.int (8 : Int32)), .val (.int (8192 : Int32))] [])) _
              refine Goes.via (fun t k => XS.iload X0.here hx rfl (hb hby d3_51) rfl k) ?_
              show Goes p e below (s₁.setTop (mkF m 53 #[.val (.ref a1), .val (.int (0 : Int32)), .val (.int (20 : Int32)), .val (.int p4), .val (.int (8 : Int32)), .val (.int (8 : Int32)), .val (.int (8 : Int32)), .val (.int (8192 : Int32))] [(.int (8 : Int32))])) _
              refine Goes.via (fun t k => XS.iconst X0.here hx rfl (hb hby d3_53) k) ?_
              show Goes p e below (s₁.setTop (mkF m 54 #[.val (.ref a1), .val (.int (0 : Int32)), .val (.int (20 : Int32)), .val (.int p4), .val (.int (8 : Int32)), .val (.int (8 : Int32)), .val (.int (8 : Int32)), .val (.int (8192 : Int32))] [(.int (1 : Int32)), (.int (8 : Int32))])) _
              refine Goes.via (fun t k => XS.isub X0.here hx rfl (hb hby d3_54) rfl k) ?_
              show Goes p e below (s₁.setTop (mkF m 55 #[.val (.ref a1), .val (.int (0 : Int32)), .val (.int (20 : Int32)), .val (.int p4), .val (.int (8 : Int32)), .val (.int (8 : Int32)), .val (.int (8 : Int32)), .val (.int (8192 : Int32))] [(.int (7 : Int32))])) _
              refine Goes.via (fun t k => XS.istore X0.here hx rfl (hb hby d3_55) rfl (l' := #[.val (.ref a1), .val (.int (0 : Int32)), .val (.int (20 : Int32)), .val (.int p4), .val (.int (8 : Int32)), .val (.int (7 : Int32)), .val (.int (8 : Int32)), .val (.int (8192 : Int32))]) rfl k) ?_
              show Goes p e below (s₁.setTop (mkF m 57 #[.val (.ref a1), .val (.int (0 : Int32)), .val (.int (20 : Int32)), .val (.int p4), .val (.int (8 : Int32)), .val (.int (7 : Int32)), .val (.int (8 : Int32)), .val (.int (8192 : Int32))] [])) _
              refine Goes.via (fun t k => XS.goto X0.here hx rfl (pc0 := 57) (pc' := 63) rfl (hb hby d3_57) (by decide) (by decide) k) ?_
              show Goes p e below (s₁.setTop (mkF m 63 #[.val (.ref a1), .val (.int (0 : Int32)), .val (.int (20 : Int32)), .val (.int p4), .val (.int (8 : Int32)), .val (.int (7 : Int32)), .val (.int (8 : Int32)), .val (.int (8192 : Int32))] [])) _
              refine Goes.via (fun t k => XS.goto X0.here hx rfl (pc0 := 63) (pc' := 8) rfl (hb hby d3_63) (by decide) (by decide) k) ?_
              show Goes p e below (s₁.setTop (mkF m 8 #[.val (.ref a1), .val (.int (0 : Int32)), .val (.int (20 : Int32)), .val (.int p4), .val (.int (8 : Int32)), .val (.int (7 : Int32)), .val (.int (8 : Int32)), .val (.int (8192 : Int32))] [])) _
              refine Goes.via (fun t k => XS.iload X0.here hx rfl (hb hby d3_8) rfl k) ?_
              show Goes p e below (s₁.setTop (mkF m 10 #[.val (.ref a1), .val (.int (0 : Int32)), .val (.int (20 : Int32)), .val (.int p4), .val (.int (8 : Int32)), .val (.int (7 : Int32)), .val (.int (8 : Int32)), .val (.int (8192 : Int32))] [(.int (8 : Int32))])) _
              refine Goes.via (fun t k => XS.iload X0.here hx rfl (hb hby d3_10) rfl k) ?_
              show Goes p e below (s₁.setTop (mkF m 12 #[.val (.ref a1), .val (.int (0 : Int32)), .val (.int (20 : Int32)), .val (.int p4), .val (.int (8 : Int32)), .val (.int (7 : Int32)), .val (.int (8 : Int32)), .val (.int (8192 : Int32))] [(.int (7 : Int32)), (.int (8 : Int32))])) _
              refine Goes.via (fun t k => XS.icmpYes X0.here hx rfl (pc0 := 12) (pc' := 66) rfl (hb hby d3_12) rfl (tlt (show (7 : Int32) < (8 : Int32) from (by decide))).2.2.1 (by decide) (by decide) k) ?_
              show Goes p e below (s₁.setTop (mkF m 66 #[.val (.ref a1), .val (.int (0 : Int32)), .val (.int (20 : Int32)), .val (.int p4), .val (.int (8 : Int32)), .val (.int (7 : Int32)), .val (.int (8 : Int32)), .val (.int (8192 : Int32))] [])) _
              refine Goes.via (fun t k => XS.iload X0.here hx rfl (hb hby d3_66) rfl k) ?_
              show Goes p e below (s₁.setTop (mkF m 68 #[.val (.ref a1), .val (.int (0 : Int32)), .val (.int (20 : Int32)), .val (.int p4), .val (.int (8 : Int32)), .val (.int (7 : Int32)), .val (.int (8 : Int32)), .val (.int (8192 : Int32))] [(.int (8 : Int32))])) _
              refine Goes.via (fun t k => XS.iconst X0.here hx rfl (hb hby d3_68) k) ?_
              show Goes p e below (s₁.setTop (mkF m 69 #[.val (.ref a1), .val (.int (0 : Int32)), .val (.int (20 : Int32)), .val (.int p4), .val (.int (8 : Int32)), .val (.int (7 : Int32)), .val (.int (8 : Int32)), .val (.int (8192 : Int32))] [(.int (1 : Int32)), (.int (8 : Int32))])) _
              refine Goes.via (fun t k => XS.iadd X0.here hx rfl (hb hby d3_69) rfl k) ?_
              show Goes p e below (s₁.setTop (mkF m 70 #[.val (.ref a1), .val (.int (0 : Int32)), .val (.int (20 : Int32)), .val (.int p4), .val (.int (8 : Int32)), .val (.int (7 : Int32)), .val (.int (8 : Int32)), .val (.int (8192 : Int32))] [(.int (9 : Int32))])) _
              refine Goes.via (fun t k => XS.ineg X0.here hx rfl (hb hby d3_70) rfl k) ?_
              show Goes p e below (s₁.setTop (mkF m 71 #[.val (.ref a1), .val (.int (0 : Int32)), .val (.int (20 : Int32)), .val (.int p4), .val (.int (8 : Int32)), .val (.int (7 : Int32)), .val (.int (8 : Int32)), .val (.int (8192 : Int32))] [(.int (-9 : Int32))])) _
              obtain ⟨fs, hr, hrun, hended, hW, hsame⟩ := X0.leave (v := some (.int (-9 : Int32))) (fun h => by rw [Bd.returns] at h; cases h)
              refine ⟨_, _, ?_, hrun, hended, _, _, rfl, ?_, ⟨_, rfl⟩, hW, hsame.mono (by decide) (by decide)⟩
              · exact retI X0 hx Bd.returns (hb hby d3_71) hr
              · show Q3 Z a1 p4 h0 n0 _ s₁.heap _
                rw [e0]
                exact ⟨congrArg some (congrArg _ (by simp only [f3, if_neg hc33_2, if_pos hc48_25, if_pos hc33_27, if_pos hc33_29, if_neg hc33_32, if_pos hc48_33])), N0, rfl⟩
            · refine Goes.via (fun t k => XS.icmpYes X0.here hx rfl (pc0 := 48) (pc' := 60) rfl (hb hby d3_48) rfl (flt hc48_33).2.2.2 (by decide) (by decide) k) ?_
              show Goes p e below (s₁.setTop (mkF m 60 #[.val (.ref a1), .val (.int (0 : Int32)), .val (.int (20 : Int32)), .val (.int p4), .val (.int (8 : Int32)), .val (.int (8 : Int32)), .val (.int (8 : Int32)), .val (.int (8192 : Int32))] [])) _
              refine Goes.via (fun t k => XS.iload X0.here hx rfl (hb hby d3_60) rfl k) ?_
              show Goes p e below (s₁.setTop (mkF m 62 #[.val (.ref a1), .val (.int (0 : Int32)), .val (.int (20 : Int32)), .val (.int p4), .val (.int (8 : Int32)), .val (.int (8 : Int32)), .val (.int (8 : Int32)), .val (.int (8192 : Int32))] [(.int (8 : Int32))])) _
              obtain ⟨fs, hr, hrun, hended, hW, hsame⟩ := X0.leave (v := some (.int (8 : Int32))) (fun h => by rw [Bd.returns] at h; cases h)
              refine ⟨_, _, ?_, hrun, hended, _, _, rfl, ?_, ⟨_, rfl⟩, hW, hsame.mono (by decide) (by decide)⟩
              · exact retI X0 hx Bd.returns (hb hby d3_62) hr
              · show Q3 Z a1 p4 h0 n0 _ s₁.heap _
                rw [e0]
                exact ⟨congrArg some (congrArg _ (by simp only [f3, if_neg hc33_2, if_pos hc48_25, if_pos hc33_27, if_pos hc33_29, if_neg hc33_32, if_neg hc48_33])), N0, rfl⟩
        · refine Goes.via (fun t k => XS.icmpYes X0.here hx rfl (pc0 := 33) (pc' := 45) rfl (hb hby d3_33) rfl (flt hc33_29).2.1 (by decide) (by decide) k) ?_
          show Goes p e below (s₁.setTop (mkF m 45 #[.val (.ref a1), .val (.int (0 : Int32)), .val (.int (20 : Int32)), .val (.int p4), .val (.int (5 : Int32)), .val (.int (8 : Int32)), .val (.int (6 : Int32)), .val (.int (5760 : Int32))] [])) _
          refine Goes.via (fun t k => XS.iload X0.here hx rfl (hb hby d3_45) rfl k) ?_
          show Goes p e below (s₁.setTop (mkF m 47 #[.val (.ref a1), .val (.int (0 : Int32)), .val (.int (20 : Int32)), .val (.int p4), .val (.int (5 : Int32)), .val (.int (8 : Int32)), .val (.int (6 : Int32)), .val (.int (5760 : Int32))] [(.int (5760 : Int32))])) _
          refine Goes.via (fun t k => XS.iloadN X0.here hx rfl (hb hby d3_47) rfl k) ?_
          show Goes p e below (s₁.setTop (mkF m 48 #[.val (.ref a1), .val (.int (0 : Int32)), .val (.int (20 : Int32)), .val (.int p4), .val (.int (5 : Int32)), .val (.int (8 : Int32)), .val (.int (6 : Int32)), .val (.int (5760 : Int32))] [(.int p4), (.int (5760 : Int32))])) _
          by_cases hc48_34 : p4 < (5760 : Int32)
          · refine Goes.via (fun t k => XS.icmpNo X0.here hx rfl (hb hby d3_48) rfl (tlt hc48_34).2.2.2 k) ?_
            show Goes p e below (s₁.setTop (mkF m 51 #[.val (.ref a1), .val (.int (0 : Int32)), .val (.int (20 : Int32)), .val (.int p4), .val (.int (5 : Int32)), .val (.int (8 : Int32)), .val (.int (6 : Int32)), .val (.int (5760 : Int32))] [])) _
            refine Goes.via (fun t k => XS.iload X0.here hx rfl (hb hby d3_51) rfl k) ?_
            show Goes p e below (s₁.setTop (mkF m 53 #[.val (.ref a1), .val (.int (0 : Int32)), .val (.int (20 : Int32)), .val (.int p4), .val (.int (5 : Int32)), .val (.int (8 : Int32)), .val (.int (6 : Int32)), .val (.int (5760 : Int32))] [(.int (6 : Int32))])) _
            refine Goes.via (fun t k => XS.iconst X0.here hx rfl (hb hby d3_53) k) ?_
            show Goes p e below (s₁.setTop (mkF m 54 #[.val (.ref a1), .val (.int (0 : Int32)), .val (.int (20 : Int32)), .val (.int p4), .val (.int (5 : Int32)), .val (.int (8 : Int32)), .val (.int (6 : Int32)), .val (.int (5760 : Int32))] [(.int (1 : Int32)), (.int (6 : Int32))])) _
            refine Goes.via (fun t k => XS.isub X0.here hx rfl (hb hby d3_54) rfl k) ?_
            show Goes p e below (s₁.setTop (mkF m 55 #[.val (.ref a1), .val (.int (0 : Int32)), .val (.int (20 : Int32)), .val (.int p4), .val (.int (5 : Int32)), .val (.int (8 : Int32)), .val (.int (6 : Int32)), .val (.int (5760 : Int32))] [(.int (5 : Int32))])) _
            refine Goes.via (fun t k => XS.istore X0.here hx rfl (hb hby d3_55) rfl (l' := #[.val (.ref a1), .val (.int (0 : Int32)), .val (.int (20 : Int32)), .val (.int p4), .val (.int (5 : Int32)), .val (.int (5 : Int32)), .val (.int (6 : Int32)), .val (.int (5760 : Int32))]) rfl k) ?_
            show Goes p e below (s₁.setTop (mkF m 57 #[.val (.ref a1), .val (.int (0 : Int32)), .val (.int (20 : Int32)), .val (.int p4), .val (.int (5 : Int32)), .val (.int (5 : Int32)), .val (.int (6 : Int32)), .val (.int (5760 : Int32))] [])) _
            refine Goes.via (fun t k => XS.goto X0.here hx rfl (pc0 := 57) (pc' := 63) rfl (hb hby d3_57) (by decide) (by decide) k) ?_
            show Goes p e below (s₁.setTop (mkF m 63 #[.val (.ref a1), .val (.int (0 : Int32)), .val (.int (20 : Int32)), .val (.int p4), .val (.int (5 : Int32)), .val (.int (5 : Int32)), .val (.int (6 : Int32)), .val (.int (5760 : Int32))] [])) _
            refine Goes.via (fun t k => XS.goto X0.here hx rfl (pc0 := 63) (pc' := 8) rfl (hb hby d3_63) (by decide) (by decide) k) ?_
            show Goes p e below (s₁.setTop (mkF m 8 #[.val (.ref a1), .val (.int (0 : Int32)), .val (.int (20 : Int32)), .val (.int p4), .val (.int (5 : Int32)), .val (.int (5 : Int32)), .val (.int (6 : Int32)), .val (.int (5760 : Int32))] [])) _
            refine Goes.via (fun t k => XS.iload X0.here hx rfl (hb hby d3_8) rfl k) ?_
            show Goes p e below (s₁.setTop (mkF m 10 #[.val (.ref a1), .val (.int (0 : Int32)), .val (.int (20 : Int32)), .val (.int p4), .val (.int (5 : Int32)), .val (.int (5 : Int32)), .val (.int (6 : Int32)), .val (.int (5760 : Int32))] [(.int (5 : Int32))])) _
            refine Goes.via (fun t k => XS.iload X0.here hx rfl (hb hby d3_10) rfl k) ?_
            show Goes p e below (s₁.setTop (mkF m 12 #[.val (.ref a1), .val (.int (0 : Int32)), .val (.int (20 : Int32)), .val (.int p4), .val (.int (5 : Int32)), .val (.int (5 : Int32)), .val (.int (6 : Int32)), .val (.int (5760 : Int32))] [(.int (5 : Int32)), (.int (5 : Int32))])) _
            refine Goes.via (fun t k => XS.icmpNo X0.here hx rfl (hb hby d3_12) rfl (flt (show ¬ ((5 : Int32) < (5 : Int32)) from (by decide))).2.2.1 k) ?_
            show Goes p e below (s₁.setTop (mkF m 15 #[.val (.ref a1), .val (.int (0 : Int32)), .val (.int (20 : Int32)), .val (.int p4), .val (.int (5 : Int32)), .val (.int (5 : Int32)), .val (.int (6 : Int32)), .val (.int (5760 : Int32))] [])) _
            refine Goes.via (fun t k => XS.iload X0.here hx rfl (hb hby d3_15) rfl k) ?_
            show Goes p e below (s₁.setTop (mkF m 17 #[.val (.ref a1), .val (.int (0 : Int32)), .val (.int (20 : Int32)), .val (.int p4), .val (.int (5 : Int32)), .val (.int (5 : Int32)), .val (.int (6 : Int32)), .val (.int (5760 : Int32))] [(.int (5 : Int32))])) _
            refine Goes.via (fun t k => XS.iload X0.here hx rfl (hb hby d3_17) rfl k) ?_
            show Goes p e below (s₁.setTop (mkF m 19 #[.val (.ref a1), .val (.int (0 : Int32)), .val (.int (20 : Int32)), .val (.int p4), .val (.int (5 : Int32)), .val (.int (5 : Int32)), .val (.int (6 : Int32)), .val (.int (5760 : Int32))] [(.int (5 : Int32)), (.int (5 : Int32))])) _
            refine Goes.via (fun t k => XS.iadd X0.here hx rfl (hb hby d3_19) rfl k) ?_
            show Goes p e below (s₁.setTop (mkF m 20 #[.val (.ref a1), .val (.int (0 : Int32)), .val (.int (20 : Int32)), .val (.int p4), .val (.int (5 : Int32)), .val (.int (5 : Int32)), .val (.int (6 : Int32)), .val (.int (5760 : Int32))] [(.int (10 : Int32))])) _
            refine Goes.via (fun t k => XS.iconst X0.here hx rfl (hb hby d3_20) k) ?_
            show Goes p e below (s₁.setTop (mkF m 21 #[.val (.ref a1), .val (.int (0 : Int32)), .val (.int (20 : Int32)), .val (.int p4), .val (.int (5 : Int32)), .val (.int (5 : Int32)), .val (.int (6 : Int32)), .val (.int (5760 : Int32))] [(.int (1 : Int32)), (.int (10 : Int32))])) _
            refine Goes.via (fun t k => XS.iushr X0.here hx rfl (hb hby d3_21) rfl k) ?_
            show Goes p e below (s₁.setTop (mkF m 22 #[.val (.ref a1), .val (.int (0 : Int32)), .val (.int (20 : Int32)), .val (.int p4), .val (.int (5 : Int32)), .val (.int (5 : Int32)), .val (.int (6 : Int32)), .val (.int (5760 : Int32))] [(.int (5 : Int32))])) _
            refine Goes.via (fun t k => XS.istore X0.here hx rfl (hb hby d3_22) rfl (l' := #[.val (.ref a1), .val (.int (0 : Int32)), .val (.int (20 : Int32)), .val (.int p4), .val (.int (5 : Int32)), .val (.int (5 : Int32)), .val (.int (5 : Int32)), .val (.int (5760 : Int32))]) rfl k) ?_
            show Goes p e below (s₁.setTop (mkF m 24 #[.val (.ref a1), .val (.int (0 : Int32)), .val (.int (20 : Int32)), .val (.int p4), .val (.int (5 : Int32)), .val (.int (5 : Int32)), .val (.int (5 : Int32)), .val (.int (5760 : Int32))] [])) _
            refine Goes.via (fun t k => XS.aloadN X0.here hx rfl (hb hby d3_24) rfl rfl k) ?_
            show Goes p e below (s₁.setTop (mkF m 25 #[.val (.ref a1), .val (.int (0 : Int32)), .val (.int (20 : Int32)), .val (.int p4), .val (.int (5 : Int32)), .val (.int (5 : Int32)), .val (.int (5 : Int32)), .val (.int (5760 : Int32))] [(.ref a1)])) _
            refine Goes.via (fun t k => XS.iload X0.here hx rfl (hb hby d3_25) rfl k) ?_
            show Goes p e below (s₁.setTop (mkF m 27 #[.val (.ref a1), .val (.int (0 : Int32)), .val (.int (20 : Int32)), .val (.int p4), .val (.int (5 : Int32)), .val (.int (5 : Int32)), .val (.int (5 : Int32)), .val (.int (5760 : Int32))] [(.int (5 : Int32)), (.ref a1)])) _
            obtain ⟨cl35, Ar35, qa35, Sa35, Na35, Ha35, Ga35⟩ := id V1
            have hin35 : ¬ ((5 : Int32) < 0 ∨ cl35.slots.size ≤ ((5 : Int32)).toNatClampNeg) := inb_of Sa35 ⟨by decide, by decide⟩
            have hat35 : cl35.slots[((5 : Int32)).toNatClampNeg]? = some (.int (160 : Int32)) := Ha35.at hin35 rfl
            refine Goes.via (fun t k => X0.iaload hx (j := (5 : Int32)) (v := (.int (160 : Int32))) (by rw [e0]; exact Ar35.1) (State.isArrayOf_alike hZ.alike Ar35.2.1) Ar35.2.2 hin35 hat35 (g := (mkF m 27 #[.val (.ref a1), .val (.int (0 : Int32)), .val (.int (20 : Int32)), .val (.int p4), .val (.int (5 : Int32)), .val (.int (5 : Int32)), .val (.int (5 : Int32)), .val (.int (5760 : Int32))] [(.int (5 : Int32)), (.ref a1)])) rfl rfl (hb hby d3_27) _ k) ?_
            show Goes p e below (s₁.setTop (mkF m 28 #[.val (.ref a1), .val (.int (0 : Int32)), .val (.int (20 : Int32)), .val (.int p4), .val (.int (5 : Int32)), .val (.int (5 : Int32)), .val (.int (5 : Int32)), .val (.int (5760 : Int32))] [(.int (160 : Int32))])) _
            refine Goes.via (fun t k => XS.istore X0.here hx rfl (hb hby d3_28) rfl (l' := #[.val (.ref a1), .val (.int (0 : Int32)), .val (.int (20 : Int32)), .val (.int p4), .val (.int (5 : Int32)), .val (.int (5 : Int32)), .val (.int (5 : Int32)), .val (.int (160 : Int32))]) rfl k) ?_
            show Goes p e below (s₁.setTop (mkF m 30 #[.val (.ref a1), .val (.int (0 : Int32)), .val (.int (20 : Int32)), .val (.int p4), .val (.int (5 : Int32)), .val (.int (5 : Int32)), .val (.int (5 : Int32)), .val (.int (160 : Int32))] [])) _
            refine Goes.via (fun t k => XS.iload X0.here hx rfl (hb hby d3_30) rfl k) ?_
            show Goes p e below (s₁.setTop (mkF m 32 #[.val (.ref a1), .val (.int (0 : Int32)), .val (.int (20 : Int32)), .val (.int p4), .val (.int (5 : Int32)), .val (.int (5 : Int32)), .val (.int (5 : Int32)), .val (.int (160 : Int32))] [(.int (160 : Int32))])) _
            refine Goes.via (fun t k => XS.iloadN X0.here hx rfl (hb hby d3_32) rfl k) ?_
            show Goes p e below (s₁.setTop (mkF m 33 #[.val (.ref a1), .val (.int (0 : Int32)), .val (.int (20 : Int32)), .val (.int p4), .val (.int (5 : Int32)), .val (.int (5 : Int32)), .val (.int (5 : Int32)), .val (.int (160 : Int32))] [(.int p4), (.int (160 : Int32))])) _
            refine Goes.via (fun t k => XS.icmpNo X0.here hx rfl (hb hby d3_33) rfl (tlt hc33_27).2.1 k) ?_
            show Goes p e below (s₁.setTop (mkF m 36 #[.val (.ref a1), .val (.int (0 : Int32)), .val (.int (20 : Int32)), .val (.int p4), .val (.int (5 : Int32)), .val (.int (5 : Int32)), .val (.int (5 : Int32)), .val (.int (160 : Int32))] [])) _
            refine Goes.via (fun t k => XS.iload X0.here hx rfl (hb hby d3_36) rfl k) ?_
            show Goes p e below (s₁.setTop (mkF m 38 #[.val (.ref a1), .val (.int (0 : Int32)), .val (.int (20 : Int32)), .val (.int p4), .val (.int (5 : Int32)), .val (.int (5 : Int32)), .val (.int (5 : Int32)), .val (.int (160 : Int32))] [(.int (5 : Int32))])) _
            refine Goes.via (fun t k => XS.iconst X0.here hx rfl (hb hby d3_38) k) ?_
            show Goes p e below (s₁.setTop (mkF m 39 #[.val (.ref a1), .val (.int (0 : Int32)), .val (.int (20 : Int32)), .val (.int p4), .val (.int (5 : Int32)), .val (.int (5 : Int32)), .val (.int (5 : Int32)), .val (.int (160 : Int32))] [(.int (1 : Int32)), (.int (5 : Int32))])) _
            refine Goes.via (fun t k => XS.iadd X0.here hx rfl (hb hby d3_39) rfl k) ?_
            show Goes p e below (s₁.setTop (mkF m 40 #[.val (.ref a1), .val (.int (0 : Int32)), .val (.int (20 : Int32)), .val (.int p4), .val (.int (5 : Int32)), .val (.int (5 : Int32)), .val (.int (5 : Int32)), .val (.int (160 : Int32))] [(.int (6 : Int32))])) _
            refine Goes.via (fun t k => XS.istore X0.here hx rfl (hb hby d3_40) rfl (l' := #[.val (.ref a1), .val (.int (0 : Int32)), .val (.int (20 : Int32)), .val (.int p4), .val (.int (6 : Int32)), .val (.int (5 : Int32)), .val (.int (5 : Int32)), .val (.int (160 : Int32))]) rfl k) ?_
            show Goes p e below (s₁.setTop (mkF m 42 #[.val (.ref a1), .val (.int (0 : Int32)), .val (.int (20 : Int32)), .val (.int p4), .val (.int (6 : Int32)), .val (.int (5 : Int32)), .val (.int (5 : Int32)), .val (.int (160 : Int32))] [])) _
            refine Goes.via (fun t k => XS.goto X0.here hx rfl (pc0 := 42) (pc' := 63) rfl (hb hby d3_42) (by decide) (by decide) k) ?_
            show Goes p e below (s₁.setTop (mkF m 63 #[.val (.ref a1), .val (.int (0 : Int32)), .val (.int (20 : Int32)), .val (.int p4), .val (.int (6 : Int32)), .val (.int (5 : Int32)), .val (.int (5 : Int32)), .val (.int (160 : Int32))] [])) _
            refine Goes.via (fun t k => XS.goto X0.here hx rfl (pc0 := 63) (pc' := 8) rfl (hb hby d3_63) (by decide) (by decide) k) ?_
            show Goes p e below (s₁.setTop (mkF m 8 #[.val (.ref a1), .val (.int (0 : Int32)), .val (.int (20 : Int32)), .val (.int p4), .val (.int (6 : Int32)), .val (.int (5 : Int32)), .val (.int (5 : Int32)), .val (.int (160 : Int32))] [])) _
            refine Goes.via (fun t k => XS.iload X0.here hx rfl (hb hby d3_8) rfl k) ?_
            show Goes p e below (s₁.setTop (mkF m 10 #[.val (.ref a1), .val (.int (0 : Int32)), .val (.int (20 : Int32)), .val (.int p4), .val (.int (6 : Int32)), .val (.int (5 : Int32)), .val (.int (5 : Int32)), .val (.int (160 : Int32))] [(.int (6 : Int32))])) _
            refine Goes.via (fun t k => XS.iload X0.here hx rfl (hb hby d3_10) rfl k) ?_
            show Goes p e below (s₁.setTop (mkF m 12 #[.val (.ref a1), .val (.int (0 : Int32)), .val (.int (20 : Int32)), .val (.int p4), .val (.int (6 : Int32)), .val (.int (5 : Int32)), .val (.int (5 : Int32)), .val (.int (160 : Int32))] [(.int (5 : Int32)), (.int (6 : Int32))])) _
            refine Goes.via (fun t k => XS.icmpYes X0.here hx rfl (pc0 := 12) (pc' := 66) rfl (hb hby d3_12) rfl (tlt (show (5 : Int32) < (6 : Int32) from (by decide))).2.2.1 (by decide) (by decide) k) ?_
            show Goes p e below (s₁.setTop (mkF m 66 #[.val (.ref a1), .val (.int (0 : Int32)), .val (.int (20 : Int32)), .val (.int p4), .val (.int (6 : Int32)), .val (.int (5 : Int32)), .val (.int (5 : Int32)), .val (.int (160 : Int32))] [])) _
            refine Goes.via (fun t k => XS.iload X0.here hx rfl (hb hby d3_66) rfl k) ?_
            show Goes p e below (s₁.setTop (mkF m 68 #[.val (.ref a1), .val (.int (0 : Int32)), .val (.int (20 : Int32)), .val (.int p4), .val (.int (6 : Int32)), .val (.int (5 : Int32)), .val (.int (5 : Int32)), .val (.int (160 : Int32))] [(.int (6 : Int32))])) _
            refine Goes.via (fun t k => XS.iconst X0.here hx rfl (hb hby d3_68) k) ?_
            show Goes p e below (s₁.setTop (mkF m 69 #[.val (.ref a1), .val (.int (0 : Int32)), .val (.int (20 : Int32)), .val (.int p4), .val (.int (6 : Int32)), .val (.int (5 : Int32)), .val (.int (5 : Int32)), .val (.int (160 : Int32))] [(.int (1 : Int32)), (.int (6 : Int32))])) _
            refine Goes.via (fun t k => XS.iadd X0.here hx rfl (hb hby d3_69) rfl k) ?_
            show Goes p e below (s₁.setTop (mkF m 70 #[.val (.ref a1), .val (.int (0 : Int32)), .val (.int (20 : Int32)), .val (.int p4), .val (.int (6 : Int32)), .val (.int (5 : Int32)), .val (.int (5 : Int32)), .val (.int (160 : Int32))] [(.int (7 : Int32))])) _
            refine Goes.via (fun t k => XS.ineg X0.here hx rfl (hb hby d3_70) rfl k) ?_
            show Goes p e below (s₁.setTop (mkF m 71 #[.val (.ref a1), .val (.int (0 : Int32)), .val (.int (20 : Int32)), .val (.int p4), .val (.int (6 : Int32)), .val (.int (5 : Int32)), .val (.int (5 : Int32)), .val (.int (160 : Int32))] [(.int (-7 : Int32))])) _
            obtain ⟨fs, hr, hrun, hended, hW, hsame⟩ := X0.leave (v := some (.int (-7 : Int32))) (fun h => by rw [Bd.returns] at h; cases h)
            refine ⟨_, _, ?_, hrun, hended, _, _, rfl, ?_, ⟨_, rfl⟩, hW, hsame.mono (by decide) (by decide)⟩
            · exact retI X0 hx Bd.returns (hb hby d3_71) hr
            · show Q3 Z a1 p4 h0 n0 _ s₁.heap _
              rw [e0]
              exact ⟨congrArg some (congrArg _ (by simp only [f3, if_neg hc33_2, if_pos hc48_25, if_pos hc33_27, if_neg hc33_29, if_pos hc48_34])), N0, rfl⟩
          · refine Goes.via (fun t k => XS.icmpYes X0.here hx rfl (pc0 := 48) (pc' := 60) rfl (hb hby d3_48) rfl (flt hc48_34).2.2.2 (by decide) (by decide) k) ?_
            show Goes p e below (s₁.setTop (mkF m 60 #[.val (.ref a1), .val (.int (0 : Int32)), .val (.int (20 : Int32)), .val (.int p4), .val (.int (5 : Int32)), .val (.int (8 : Int32)), .val (.int (6 : Int32)), .val (.int (5760 : Int32))] [])) _
            refine Goes.via (fun t k => XS.iload X0.here hx rfl (hb hby d3_60) rfl k) ?_
            show Goes p e below (s₁.setTop (mkF m 62 #[.val (.ref a1), .val (.int (0 : Int32)), .val (.int (20 : Int32)), .val (.int p4), .val (.int (5 : Int32)), .val (.int (8 : Int32)), .val (.int (6 : Int32)), .val (.int (5760 : Int32))] [(.int (6 : Int32))])) _
            obtain ⟨fs, hr, hrun, hended, hW, hsame⟩ := X0.leave (v := some (.int (6 : Int32))) (fun h => by rw [Bd.returns] at h; cases h)
            refine ⟨_, _, ?_, hrun, hended, _, _, rfl, ?_, ⟨_, rfl⟩, hW, hsame.mono (by decide) (by decide)⟩
            · exact retI X0 hx Bd.returns (hb hby d3_62) hr
            · show Q3 Z a1 p4 h0 n0 _ s₁.heap _
              rw [e0]
              exact ⟨congrArg some (congrArg _ (by simp only [f3, if_neg hc33_2, if_pos hc48_25, if_pos hc33_27, if_neg hc33_29, if_neg hc48_34])), N0, rfl⟩
      · refine Goes.via (fun t k => XS.icmpYes X0.here hx rfl (pc0 := 33) (pc' := 45) rfl (hb hby d3_33) rfl (flt hc33_27).2.1 (by decide) (by decide) k) ?_
        show Goes p e below (s₁.setTop (mkF m 45 #[.val (.ref a1), .val (.int (0 : Int32)), .val (.int (20 : Int32)), .val (.int p4), .val (.int (0 : Int32)), .val (.int (8 : Int32)), .val (.int (4 : Int32)), .val (.int (160 : Int32))] [])) _
        refine Goes.via (fun t k => XS.iload X0.here hx rfl (hb hby d3_45) rfl k) ?_
        show Goes p e below (s₁.setTop (mkF m 47 #[.val (.ref a1), .val (.int (0 : Int32)), .val (.int (20 : Int32)), .val (.int p4), .val (.int (0 : Int32)), .val (.int (8 : Int32)), .val (.int (4 : Int32)), .val (.int (160 : Int32))] [(.int (160 : Int32))])) _
        refine Goes.via (fun t k => XS.iloadN X0.here hx rfl (hb hby d3_47) rfl k) ?_
        show Goes p e below (s₁.setTop (mkF m 48 #[.val (.ref a1), .val (.int (0 : Int32)), .val (.int (20 : Int32)), .val (.int p4), .val (.int (0 : Int32)), .val (.int (8 : Int32)), .val (.int (4 : Int32)), .val (.int (160 : Int32))] [(.int p4), (.int (160 : Int32))])) _
        by_cases hc48_36 : p4 < (160 : Int32)
        · refine Goes.via (fun t k => XS.icmpNo X0.here hx rfl (hb hby d3_48) rfl (tlt hc48_36).2.2.2 k) ?_
          show Goes p e below (s₁.setTop (mkF m 51 #[.val (.ref a1), .val (.int (0 : Int32)), .val (.int (20 : Int32)), .val (.int p4), .val (.int (0 : Int32)), .val (.int (8 : Int32)), .val (.int (4 : Int32)), .val (.int (160 : Int32))] [])) _
          refine Goes.via (fun t k => XS.iload X0.here hx rfl (hb hby d3_51) rfl k) ?_
          show Goes p e below (s₁.setTop (mkF m 53 #[.val (.ref a1), .val (.int (0 : Int32)), .val (.int (20 : Int32)), .val (.int p4), .val (.int (0 : Int32)), .val (.int (8 : Int32)), .val (.int (4 : Int32)), .val (.int (160 : Int32))] [(.int (4 : Int32))])) _
          refine Goes.via (fun t k => XS.iconst X0.here hx rfl (hb hby d3_53) k) ?_
          show Goes p e below (s₁.setTop (mkF m 54 #[.val (.ref a1), .val (.int (0 : Int32)), .val (.int (20 : Int32)), .val (.int p4), .val (.int (0 : Int32)), .val (.int (8 : Int32)), .val (.int (4 : Int32)), .val (.int (160 : Int32))] [(.int (1 : Int32)), (.int (4 : Int32))])) _
          refine Goes.via (fun t k => XS.isub X0.here hx rfl (hb hby d3_54) rfl k) ?_
          show Goes p e below (s₁.setTop (mkF m 55 #[.val (.ref a1), .val (.int (0 : Int32)), .val (.int (20 : Int32)), .val (.int p4), .val (.int (0 : Int32)), .val (.int (8 : Int32)), .val (.int (4 : Int32)), .val (.int (160 : Int32))] [(.int (3 : Int32))])) _
          refine Goes.via (fun t k => XS.istore X0.here hx rfl (hb hby d3_55) rfl (l' := #[.val (.ref a1), .val (.int (0 : Int32)), .val (.int (20 : Int32)), .val (.int p4), .val (.int (0 : Int32)), .val (.int (3 : Int32)), .val (.int (4 : Int32)), .val (.int (160 : Int32))]) rfl k) ?_
          show Goes p e below (s₁.setTop (mkF m 57 #[.val (.ref a1), .val (.int (0 : Int32)), .val (.int (20 : Int32)), .val (.int p4), .val (.int (0 : Int32)), .val (.int (3 : Int32)), .val (.int (4 : Int32)), .val (.int (160 : Int32))] [])) _
          refine Goes.via (fun t k => XS.goto X0.here hx rfl (pc0 := 57) (pc' := 63) rfl (hb hby d3_57) (by decide) (by decide) k) ?_
          show Goes p e below (s₁.setTop (mkF m 63 #[.val (.ref a1), .val (.int (0 : Int32)), .val (.int (20 : Int32)), .val (.int p4), .val (.int (0 : Int32)), .val (.int (3 : Int32)), .val (.int (4 : Int32)), .val (.int (160 : Int32))] [])) _
          refine Goes.via (fun t k => XS.goto X0.here hx rfl (pc0 := 63) (pc' := 8) rfl (hb hby d3_63) (by decide) (by decide) k) ?_
          show Goes p e below (s₁.setTop (mkF m 8 #[.val (.ref a1), .val (.int (0 : Int32)), .val (.int (20 : Int32)), .val (.int p4), .val (.int (0 : Int32)), .val (.int (3 : Int32)), .val (.int (4 : Int32)), .val (.int (160 : Int32))] [])) _
          refine Goes.via (fun t k => XS.iload X0.here hx rfl (hb hby d3_8) rfl k) ?_
          show Goes p e below (s₁.setTop (mkF m 10 #[.val (.ref a1), .val (.int (0 : Int32)), .val (.int (20 : Int32)), .val (.int p4), .val (.int (0 : Int32)), .val (.int (3 : Int32)), .val (.int (4 : Int32)), .val (.int (160 : Int32))] [(.int (0 : Int32))])) _
          refine Goes.via (fun t k => XS.iload X0.here hx rfl (hb hby d3_10) rfl k) ?_
          show Goes p e below (s₁.setTop (mkF m 12 #[.val (.ref a1), .val (.int (0 : Int32)), .val (.int (20 : Int32)), .val (.int p4), .val (.int (0 : Int32)), .val (.int (3 : Int32)), .val (.int (4 : Int32)), .val (.int (160 : Int32))] [(.int (3 : Int32)), (.int (0 : Int32))])) _
          refine Goes.via (fun t k => XS.icmpNo X0.here hx rfl (hb hby d3_12) rfl (flt (show ¬ ((3 : Int32) < (0 : Int32)) from (by decide))).2.2.1 k) ?_
          show Goes p e below (s₁.setTop (mkF m 15 #[.val (.ref a1), .val (.int (0 : Int32)), .val (.int (20 : Int32)), .val (.int p4), .val (.int (0 : Int32)), .val (.int (3 : Int32)), .val (.int (4 : Int32)), .val (.int (160 : Int32))] [])) _
          refine Goes.via (fun t k => XS.iload X0.here hx rfl (hb hby d3_15) rfl k) ?_
          show Goes p e below (s₁.setTop (mkF m 17 #[.val (.ref a1), .val (.int (0 : Int32)), .val (.int (20 : Int32)), .val (.int p4), .val (.int (0 : Int32)), .val (.int (3 : Int32)), .val (.int (4 : Int32)), .val (.int (160 : Int32))] [(.int (0 : Int32))])) _
          refine Goes.via (fun t k => XS.iload X0.here hx rfl (hb hby d3_17) rfl k) ?_
          show Goes p e below (s₁.setTop (mkF m 19 #[.val (.ref a1), .val (.int (0 : Int32)), .val (.int (20 : Int32)), .val (.int p4), .val (.int (0 : Int32)), .val (.int (3 : Int32)), .val (.int (4 : Int32)), .val (.int (160 : Int32))] [(.int (3 : Int32)), (.int (0 : Int32))])) _
          refine Goes.via (fun t k => XS.iadd X0.here hx rfl (hb hby d3_19) rfl k) ?_
          show Goes p e below (s₁.setTop (mkF m 20 #[.val (.ref a1), .val (.int (0 : Int32)), .val (.int (20 : Int32)), .val (.int p4), .val (.int (0 : Int32)), .val (.int (3 : Int32)), .val (.int (4 : Int32)), .val (.int (160 : Int32))] [(.int (3 : Int32))])) _
          refine Goes.via (fun t k => XS.iconst X0.here hx rfl (hb hby d3_20) k) ?_
          show Goes p e below (s₁.setTop (mkF m 21 #[.val (.ref a1), .val (.int (0 : Int32)), .val (.int (20 : Int32)), .val (.int p4), .val (.int (0 : Int32)), .val (.int (3 : Int32)), .val (.int (4 : Int32)), .val (.int (160 : Int32))] [(.int (1 : Int32)), (.int (3 : Int32))])) _
          refine Goes.via (fun t k => XS.iushr X0.here hx rfl (hb hby d3_21) rfl k) ?_
          show Goes p e below (s₁.setTop (mkF m 22 #[.val (.ref a1), .val (.int (0 : Int32)), .val (.int (20 : Int32)), .val (.int p4), .val (.int (0 : Int32)), .val (.int (3 : Int32)), .val (.int (4 : Int32)), .val (.int (160 : Int32))] [(.int (1 : Int32))])) _
          refine Goes.via (fun t k => XS.istore X0.here hx rfl (hb hby d3_22) rfl (l' := #[.val (.ref a1), .val (.int (0 : Int32)), .val (.int (20 : Int32)), .val (.int p4), .val (.int (0 : Int32)), .val (.int (3 : Int32)), .val (.int (1 : Int32)), .val (.int (160 : Int32))]) rfl k) ?_
          show Goes p e below (s₁.setTop (mkF m 24 #[.val (.ref a1), .val (.int (0 : Int32)), .val (.int (20 : Int32)), .val (.int p4), .val (.int (0 : Int32)), .val (.int (3 : Int32)), .val (.int (1 : Int32)), .val (.int (160 : Int32))] [])) _
          refine Goes.via (fun t k => XS.aloadN X0.here hx rfl (hb hby d3_24) rfl rfl k) ?_
          show Goes p e below (s₁.setTop (mkF m 25 #[.val (.ref a1), .val (.int (0 : Int32)), .val (.int (20 : Int32)), .val (.int p4), .val (.int (0 : Int32)), .val (.int (3 : Int32)), .val (.int (1 : Int32)), .val (.int (160 : Int32))] [(.ref a1)])) _
          refine Goes.via (fun t k => XS.iload X0.here hx rfl (hb hby d3_25) rfl k) ?_
          show Goes p e below (s₁.setTop (mkF m 27 #[.val (.ref a1), .val (.int (0 : Int32)), .val (.int (20 : Int32)), .val (.int p4), .val (.int (0 : Int32)), .val (.int (3 : Int32)), .val (.int (1 : Int32)), .val (.int (160 : Int32))] [(.int (1 : Int32)), (.ref a1)])) _
          obtain ⟨cl37, Ar37, qa37, Sa37, Na37, Ha37, Ga37⟩ := id V1
          have hin37 : ¬ ((1 : Int32) < 0 ∨ cl37.slots.size ≤ ((1 : Int32)).toNatClampNeg) := inb_of Sa37 ⟨by decide, by decide⟩
          have hat37 : cl37.slots[((1 : Int32)).toNatClampNeg]? = some (.int (13 : Int32)) := Ha37.at hin37 rfl
          refine Goes.via (fun t k => X0.iaload hx (j := (1 : Int32)) (v := (.int (13 : Int32))) (by rw [e0]; exact Ar37.1) (State.isArrayOf_alike hZ.alike Ar37.2.1) Ar37.2.2 hin37 hat37 (g := (mkF m 27 #[.val (.ref a1), .val (.int (0 : Int32)), .val (.int (20 : Int32)), .val (.int p4), .val (.int (0 : Int32)), .val (.int (3 : Int32)), .val (.int (1 : Int32)), .val (.int (160 : Int32))] [(.int (1 : Int32)), (.ref a1)])) rfl rfl (hb hby d3_27) _ k) ?_
          show Goes p e below (s₁.setTop (mkF m 28 #[.val (.ref a1), .val (.int (0 : Int32)), .val (.int (20 : Int32)), .val (.int p4), .val (.int (0 : Int32)), .val (.int (3 : Int32)), .val (.int (1 : Int32)), .val (.int (160 : Int32))] [(.int (13 : Int32))])) _
          refine Goes.via (fun t k => XS.istore X0.here hx rfl (hb hby d3_28) rfl (l' := #[.val (.ref a1), .val (.int (0 : Int32)), .val (.int (20 : Int32)), .val (.int p4), .val (.int (0 : Int32)), .val (.int (3 : Int32)), .val (.int (1 : Int32)), .val (.int (13 : Int32))]) rfl k) ?_
          show Goes p e below (s₁.setTop (mkF m 30 #[.val (.ref a1), .val (.int (0 : Int32)), .val (.int (20 : Int32)), .val (.int p4), .val (.int (0 : Int32)), .val (.int (3 : Int32)), .val (.int (1 : Int32)), .val (.int (13 : Int32))] [])) _
          refine Goes.via (fun t k => XS.iload X0.here hx rfl (hb hby d3_30) rfl k) ?_
          show Goes p e below (s₁.setTop (mkF m 32 #[.val (.ref a1), .val (.int (0 : Int32)), .val (.int (20 : Int32)), .val (.int p4), .val (.int (0 : Int32)), .val (.int (3 : Int32)), .val (.int (1 : Int32)), .val (.int (13 : Int32))] [(.int (13 : Int32))])) _
          refine Goes.via (fun t k => XS.iloadN X0.here hx rfl (hb hby d3_32) rfl k) ?_
          show Goes p e below (s₁.setTop (mkF m 33 #[.val (.ref a1), .val (.int (0 : Int32)), .val (.int (20 : Int32)), .val (.int p4), .val (.int (0 : Int32)), .val (.int (3 : Int32)), .val (.int (1 : Int32)), .val (.int (13 : Int32))] [(.int p4), (.int (13 : Int32))])) _
          by_cases hc33_38 : (13 : Int32) < p4
          · refine Goes.via (fun t k => XS.icmpNo X0.here hx rfl (hb hby d3_33) rfl (tlt hc33_38).2.1 k) ?_
            show Goes p e below (s₁.setTop (mkF m 36 #[.val (.ref a1), .val (.int (0 : Int32)), .val (.int (20 : Int32)), .val (.int p4), .val (.int (0 : Int32)), .val (.int (3 : Int32)), .val (.int (1 : Int32)), .val (.int (13 : Int32))] [])) _
            refine Goes.via (fun t k => XS.iload X0.here hx rfl (hb hby d3_36) rfl k) ?_
            show Goes p e below (s₁.setTop (mkF m 38 #[.val (.ref a1), .val (.int (0 : Int32)), .val (.int (20 : Int32)), .val (.int p4), .val (.int (0 : Int32)), .val (.int (3 : Int32)), .val (.int (1 : Int32)), .val (.int (13 : Int32))] [(.int (1 : Int32))])) _
            refine Goes.via (fun t k => XS.iconst X0.here hx rfl (hb hby d3_38) k) ?_
            show Goes p e below (s₁.setTop (mkF m 39 #[.val (.ref a1), .val (.int (0 : Int32)), .val (.int (20 : Int32)), .val (.int p4), .val (.int (0 : Int32)), .val (.int (3 : Int32)), .val (.int (1 : Int32)), .val (.int (13 : Int32))] [(.int (1 : Int32)), (.int (1 : Int32))])) _
            refine Goes.via (fun t k => XS.iadd X0.here hx rfl (hb hby d3_39) rfl k) ?_
            show Goes p e below (s₁.setTop (mkF m 40 #[.val (.ref a1), .val (.int (0 : Int32)), .val (.int (20 : Int32)), .val (.int p4), .val (.int (0 : Int32)), .val (.int (3 : Int32)), .val (.int (1 : Int32)), .val (.int (13 : Int32))] [(.int (2 : Int32))])) _
            refine Goes.via (fun t k => XS.istore X0.here hx rfl (hb hby d3_40) rfl (l' := #[.val (.ref a1), .val (.int (0 : Int32)), .val (.int (20 : Int32)), .val (.int p4), .val (.int (2 : Int32)), .val (.int (3 : Int32)), .val (.int (1 : Int32)), .val (.int (13 : Int32))]) rfl k) ?_
            show Goes p e below (s₁.setTop (mkF m 42 #[.val (.ref a1), .val (.int (0 : Int32)), .val (.int (20 : Int32)), .val (.int p4), .val (.int (2 : Int32)), .val (.int (3 : Int32)), .val (.int (1 : Int32)), .val (.int (13 : Int32))] [])) _
            refine Goes.via (fun t k => XS.goto X0.here hx rfl (pc0 := 42) (pc' := 63) rfl (hb hby d3_42) (by decide) (by decide) k) ?_
            show Goes p e below (s₁.setTop (mkF m 63 #[.val (.ref a1), .val (.int (0 : Int32)), .val (.int (20 : Int32)), .val (.int p4), .val (.int (2 : Int32)), .val (.int (3 : Int32)), .val (.int (1 : Int32)), .val (.int (13 : Int32))] [])) _
            refine Goes.via (fun t k => XS.goto X0.here hx rfl (pc0 := 63) (pc' := 8) rfl (hb hby d3_63) (by decide) (by decide) k) ?_
            show Goes p e below (s₁.setTop (mkF m 8 #[.val (.ref a1), .val (.int (0 : Int32)), .val (.int (20 : Int32)), .val (.int p4), .val (.int (2 : Int32)), .val (.int (3 : Int32)), .val (.int (1 : Int32)), .val (.int (13 : Int32))] [])) _
            refine Goes.via (fun t k => XS.iload X0.here hx rfl (hb hby d3_8) rfl k) ?_
            show Goes p e below (s₁.setTop (mkF m 10 #[.val (.ref a1), .val (.int (0 : Int32)), .val (.int (20 : Int32)), .val (.int p4), .val (.int (2 : Int32)), .val (.int (3 : Int32)), .val (.int (1 : Int32)), .val (.int (13 : Int32))] [(.int (2 : Int32))])) _
            refine Goes.via (fun t k => XS.iload X0.here hx rfl (hb hby d3_10) rfl k) ?_
            show Goes p e below (s₁.setTop (mkF m 12 #[.val (.ref a1), .val (.int (0 : Int32)), .val (.int (20 : Int32)), .val (.int p4), .val (.int (2 : Int32)), .val (.int (3 : Int32)), .val (.int (1 : Int32)), .val (.int (13 : Int32))] [(.int (3 : Int32)), (.int (2 : Int32))])) _
            refine Goes.via (fun t k => XS.icmpNo X0.here hx rfl (hb hby d3_12) rfl (flt (show ¬ ((3 : Int32) < (2 : Int32)) from (by decide))).2.2.1 k) ?_
            show Goes p e below (s₁.setTop (mkF m 15 #[.val (.ref a1), .val (.int (0 : Int32)), .val (.int (20 : Int32)), .val (.int p4), .val (.int (2 : Int32)), .val (.int (3 : Int32)), .val (.int (1 : Int32)), .val (.int (13 : Int32))] [])) _
            refine Goes.via (fun t k => XS.iload X0.here hx rfl (hb hby d3_15) rfl k) ?_
            show Goes p e below (s₁.setTop (mkF m 17 #[.val (.ref a1), .val (.int (0 : Int32)), .val (.int (20 : Int32)), .val (.int p4), .val (.int (2 : Int32)), .val (.int (3 : Int32)), .val (.int (1 : Int32)), .val (.int (13 : Int32))] [(.int (2 : Int32))])) _
            refine Goes.via (fun t k => XS.iload X0.here hx rfl (hb hby d3_17) rfl k) ?_
            show Goes p e below (s₁.setTop (mkF m 19 #[.val (.ref a1), .val (.int (0 : Int32)), .val (.int (20 : Int32)), .val (.int p4), .val (.int (2 : Int32)), .val (.int (3 : Int32)), .val (.int (1 : Int32)), .val (.int (13 : Int32))] [(.int (3 : Int32)), (.int (2 : Int32))])) _
            refine Goes.via (fun t k => XS.iadd X0.here hx rfl (hb hby d3_19) rfl k) ?_
            show Goes p e below (s₁.setTop (mkF m 20 #[.val (.ref a1), .val (.int (0 : Int32)), .val (.int (20 : Int32)), .val (.int p4), .val (.int (2 : Int32)), .val (.int (3 : Int32)), .val (.int (1 : Int32)), .val (.int (13 : Int32))] [(.int (5 : Int32))])) _
            refine Goes.via (fun t k => XS.iconst X0.here hx rfl (hb hby d3_20) k) ?_
            show Goes p e below (s₁.setTop (mkF m 21 #[.val (.ref a1), .val (.int (0 : Int32)), .val (.int (20 : Int32)), .val (.int p4), .val (.int (2 : Int32)), .val (.int (3 : Int32)), .val (.int (1 : Int32)), .val (.int (13 : Int32))] [(.int (1 : Int32)), (.int (5 : Int32))])) _
            refine Goes.via (fun t k => XS.iushr X0.here hx rfl (hb hby d3_21) rfl k) ?_
            show Goes p e below (s₁.setTop (mkF m 22 #[.val (.ref a1), .val (.int (0 : Int32)), .val (.int (20 : Int32)), .val (.int p4), .val (.int (2 : Int32)), .val (.int (3 : Int32)), .val (.int (1 : Int32)), .val (.int (13 : Int32))] [(.int (2 : Int32))])) _
            refine Goes.via (fun t k => XS.istore X0.here hx rfl (hb hby d3_22) rfl (l' := #[.val (.ref a1), .val (.int (0 : Int32)), .val (.int (20 : Int32)), .val (.int p4), .val (.int (2 : Int32)), .val (.int (3 : Int32)), .val (.int (2 : Int32)), .val (.int (13 : Int32))]) rfl k) ?_
            show Goes p e below (s₁.setTop (mkF m 24 #[.val (.ref a1), .val (.int (0 : Int32)), .val (.int (20 : Int32)), .val (.int p4), .val (.int (2 : Int32)), .val (.int (3 : Int32)), .val (.int (2 : Int32)), .val (.int (13 : Int32))] [])) _
            refine Goes.via (fun t k => XS.aloadN X0.here hx rfl (hb hby d3_24) rfl rfl k) ?_
            show Goes p e below (s₁.setTop (mkF m 25 #[.val (.ref a1), .val (.int (0 : Int32)), .val (.int (20 : Int32)), .val (.int p4), .val (.int (2 : Int32)), .val (.int (3 : Int32)), .val (.int (2 : Int32)), .val (.int (13 : Int32))] [(.ref a1)])) _
            refine Goes.via (fun t k => XS.iload X0.here hx rfl (hb hby d3_25) rfl k) ?_
            show Goes p e below (s₁.setTop (mkF m 27 #[.val (.ref a1), .val (.int (0 : Int32)), .val (.int (20 : Int32)), .val (.int p4), .val (.int (2 : Int32)), .val (.int (3 : Int32)), .val (.int (2 : Int32)), .val (.int (13 : Int32))] [(.int (2 : Int32)), (.ref a1)])) _
            obtain ⟨cl39, Ar39, qa39, Sa39, Na39, Ha39, Ga39⟩ := id V1
            have hin39 : ¬ ((2 : Int32) < 0 ∨ cl39.slots.size ≤ ((2 : Int32)).toNatClampNeg) := inb_of Sa39 ⟨by decide, by decide⟩
            have hat39 : cl39.slots[((2 : Int32)).toNatClampNeg]? = some (.int (32 : Int32)) := Ha39.at hin39 rfl
            refine Goes.via (fun t k => X0.iaload hx (j := (2 : Int32)) (v := (.int (32 : Int32))) (by rw [e0]; exact Ar39.1) (State.isArrayOf_alike hZ.alike Ar39.2.1) Ar39.2.2 hin39 hat39 (g := (mkF m 27 #[.val (.ref a1), .val (.int (0 : Int32)), .val (.int (20 : Int32)), .val (.int p4), .val (.int (2 : Int32)), .val (.int (3 : Int32)), .val (.int (2 : Int32)), .val (.int (13 : Int32))] [(.int (2 : Int32)), (.ref a1)])) rfl rfl (hb hby d3_27) _ k) ?_
            show Goes p e below (s₁.setTop (mkF m 28 #[.val (.ref a1), .val (.int (0 : Int32)), .val (.int (20 : Int32)), .val (.int p4), .val (.int (2 : Int32)), .val (.int (3 : Int32)), .val (.int (2 : Int32)), .val (.int (13 : Int32))] [(.int (32 : Int32))])) _
            refine Goes.via (fun t k => XS.istore X0.here hx rfl (hb hby d3_28) rfl (l' := #[.val (.ref a1), .val (.int (0 : Int32)), .val (.int (20 : Int32)), .val (.int p4), .val (.int (2 : Int32)), .val (.int (3 : Int32)), .val (.int (2 : Int32)), .val (.int (32 : Int32))]) rfl k) ?_
            show Goes p e below (s₁.setTop (mkF m 30 #[.val (.ref a1), .val (.int (0 : Int32)), .val (.int (20 : Int32)), .val (.int p4), .val (.int (2 : Int32)), .val (.int (3 : Int32)), .val (.int (2 : Int32)), .val (.int (32 : Int32))] [])) _
            refine Goes.via (fun t k => XS.iload X0.here hx rfl (hb hby d3_30) rfl k) ?_
            show Goes p e below (s₁.setTop (mkF m 32 #[.val (.ref a1), .val (.int (0 : Int32)), .val (.int (20 : Int32)), .val (.int p4), .val (.int (2 : Int32)), .val (.int (3 : Int32)), .val (.int (2 : Int32)), .val (.int (32 : Int32))] [(.int (32 : Int32))])) _
            refine Goes.via (fun t k => XS.iloadN X0.here hx rfl (hb hby d3_32) rfl k) ?_
            show Goes p e below (s₁.setTop (mkF m 33 #[.val (.ref a1), .val (.int (0 : Int32)), .val (.int (20 : Int32)), .val (.int p4), .val (.int (2 : Int32)), .val (.int (3 : Int32)), .val (.int (2 : Int32)), .val (.int (32 : Int32))] [(.int p4), (.int (32 : Int32))])) _
            by_cases hc33_40 : (32 : Int32) < p4
            · refine Goes.via (fun t k => XS.icmpNo X0.here hx rfl (hb hby d3_33) rfl (tlt hc33_40).2.1 k) ?_
              show Goes p e below (s₁.setTop (mkF m 36 #[.val (.ref a1), .val (.int (0 : Int32)), .val (.int (20 : Int32)), .val (.int p4), .val (.int (2 : Int32)), .val (.int (3 : Int32)), .val (.int (2 : Int32)), .val (.int (32 : Int32))] [])) _
              refine Goes.via (fun t k => XS.iload X0.here hx rfl (hb hby d3_36) rfl k) ?_
              show Goes p e below (s₁.setTop (mkF m 38 #[.val (.ref a1), .val (.int (0 : Int32)), .val (.int (20 : Int32)), .val (.int p4), .val (.int (2 : Int32)), .val (.int (3 : Int32)), .val (.int (2 : Int32)), .val (.int (32 : Int32))] [(.int (2 : Int32))])) _
              refine Goes.via (fun t k => XS.iconst X0.here hx rfl (hb hby d3_38) k) ?_
              show Goes p e below (s₁.setTop (mkF m 39 #[.val (.ref a1), .val (.int (0 : Int32)), .val (.int (20 : Int32)), .val (.int p4), .val (.int (2 : Int32)), .val (.int (3 : Int32)), .val (.int (2 : Int32)), .val (.int (32 : Int32))] [(.int (1 : Int32)), (.int (2 : Int32))])) _
              refine Goes.via (fun t k => XS.iadd X0.here hx rfl (hb hby d3_39) rfl k) ?_
              show Goes p e below (s₁.setTop (mkF m 40 #[.val (.ref a1), .val (.int (0 : Int32)), .val (.int (20 : Int32)), .val (.int p4), .val (.int (2 : Int32)), .val (.int (3 : Int32)), .val (.int (2 : Int32)), .val (.int (32 : Int32))] [(.int (3 : Int32))])) _
              refine Goes.via (fun t k => XS.istore X0.here hx rfl (hb hby d3_40) rfl (l' := #[.val (.ref a1), .val (.int (0 : Int32)), .val (.int (20 : Int32)), .val (.int p4), .val (.int (3 : Int32)), .val (.int (3 : Int32)), .val (.int (2 : Int32)), .val (.int (32 : Int32))]) rfl k) ?_
              show Goes p e below (s₁.setTop (mkF m 42 #[.val (.ref a1), .val (.int (0 : Int32)), .val (.int (20 : Int32)), .val (.int p4), .val (.int (3 : Int32)), .val (.int (3 : Int32)), .val (.int (2 : Int32)), .val (.int (32 : Int32))] [])) _
              refine Goes.via (fun t k => XS.goto X0.here hx rfl (pc0 := 42) (pc' := 63) rfl (hb hby d3_42) (by decide) (by decide) k) ?_
              show Goes p e below (s₁.setTop (mkF m 63 #[.val (.ref a1), .val (.int (0 : Int32)), .val (.int (20 : Int32)), .val (.int p4), .val (.int (3 : Int32)), .val (.int (3 : Int32)), .val (.int (2 : Int32)), .val (.int (32 : Int32))] [])) _
              refine Goes.via (fun t k => XS.goto X0.here hx rfl (pc0 := 63) (pc' := 8) rfl (hb hby d3_63) (by decide) (by decide) k) ?_
              show Goes p e below (s₁.setTop (mkF m 8 #[.val (.ref a1), .val (.int (0 : Int32)), .val (.int (20 : Int32)), .val (.int p4), .val (.int (3 : Int32)), .val (.int (3 : Int32)), .val (.int (2 : Int32)), .val (.int (32 : Int32))] [])) _
              refine Goes.via (fun t k => XS.iload X0.here hx rfl (hb hby d3_8) rfl k) ?_
              show Goes p e below (s₁.setTop (mkF m 10 #[.val (.ref a1), .val (.int (0 : Int32)), .val (.int (20 : Int32)), .val (.int p4), .val (.int (3 : Int32)), .val (.int (3 : Int32)), .val (.int (2 : Int32)), .val (.int (32 : Int32))] [(.int (3 : Int32))])) _
              refine Goes.via (fun t k => XS.iload X0.here hx rfl (hb hby d3_10) rfl k) ?_
              show Goes p e below (s₁.setTop (mkF m 12 #[.val (.ref a1), .val (.int (0 : Int32)), .val (.int (20 : Int32)), .val (.int p4), .val (.int (3 : Int32)), .val (.int (3 : Int32)), .val (.int (2 : Int32)), .val (.int (32 : Int32))] [(.int (3 : Int32)), (.int (3 : Int32))])) _
              refine Goes.via (fun t k => XS.icmpNo X0.here hx rfl (hb hby d3_12) rfl (flt (show ¬ ((3 : Int32) < (3 : Int32)) from (by decide))).2.2.1 k) ?_
              show Goes p e below (s₁.setTop (mkF m 15 #[.val (.ref a1), .val (.int (0 : Int32)), .val (.int (20 : Int32)), .val (.int p4), .val (.int (3 : Int32)), .val (.int (3 : Int32)), .val (.int (2 : Int32)), .val (.int (32 : Int32))] [])) _
              refine Goes.via (fun t k => XS.iload X0.here hx rfl (hb hby d3_15) rfl k) ?_
              show Goes p e below (s₁.setTop (mkF m 17 #[.val (.ref a1), .val (.int (0 : Int32)), .val (.int (20 : Int32)), .val (.int p4), .val (.int (3 : Int32)), .val (.int (3 : Int32)), .val (.int (2 : Int32)), .val (.int (32 : Int32))] [(.int (3 : Int32))])) _
              refine Goes.via (fun t k => XS.iload X0.here hx rfl (hb hby d3_17) rfl k) ?_
              show Goes p e below (s₁.setTop (mkF m 19 #[.val (.ref a1), .val (.int (0 : Int32)), .val (.int (20 : Int32)), .val (.int p4), .val (.int (3 : Int32)), .val (.int (3 : Int32)), .val (.int (2 : Int32)), .val (.int (32 : Int32))] [(.int (3 : Int32)), (.int (3 : Int32))])) _
              refine Goes.via (fun t k => XS.iadd X0.here hx rfl (hb hby d3_19) rfl k) ?_
              show Goes p e below (s₁.setTop (mkF m 20 #[.val (.ref a1), .val (.int (0 : Int32)), .val (.int (20 : Int32)), .val (.int p4), .val (.int (3 : Int32)), .val (.int (3 : Int32)), .val (.int (2 : Int32)), .val (.int (32 : Int32))] [(.int (6 : Int32))])) _
              refine Goes.via (fun t k => XS.iconst X0.here hx rfl (hb hby d3_20) k) ?_
              show Goes p e below (s₁.setTop (mkF m 21 #[.val (.ref a1), .val (.int (0 : Int32)), .val (.int (20 : Int32)), .val (.int p4), .val (.int (3 : Int32)), .val (.int (3 : Int32)), .val (.int (2 : Int32)), .val (.int (32 : Int32))] [(.int (1 : Int32)), (.int (6 : Int32))])) _
              refine Goes.via (fun t k => XS.iushr X0.here hx rfl (hb hby d3_21) rfl k) ?_
              show Goes p e below (s₁.setTop (mkF m 22 #[.val (.ref a1), .val (.int (0 : Int32)), .val (.int (20 : Int32)), .val (.int p4), .val (.int (3 : Int32)), .val (.int (3 : Int32)), .val (.int (2 : Int32)), .val (.int (32 : Int32))] [(.int (3 : Int32))])) _
              refine Goes.via (fun t k => XS.istore X0.here hx rfl (hb hby d3_22) rfl (l' := #[.val (.ref a1), .val (.int (0 : Int32)), .val (.int (20 : Int32)), .val (.int p4), .val (.int (3 : Int32)), .val (.int (3 : Int32)), .val (.int (3 : Int32)), .val (.int (32 : Int32))]) rfl k) ?_
              show Goes p e below (s₁.setTop (mkF m 24 #[.val (.ref a1), .val (.int (0 : Int32)), .val (.int (20 : Int32)), .val (.int p4), .val (.int (3 : Int32)), .val (.int (3 : Int32)), .val (.int (3 : Int32)), .val (.int (32 : Int32))] [])) _
              refine Goes.via (fun t k => XS.aloadN X0.here hx rfl (hb hby d3_24) rfl rfl k) ?_
              show Goes p e below (s₁.setTop (mkF m 25 #[.val (.ref a1), .val (.int (0 : Int32)), .val (.int (20 : Int32)), .val (.int p4), .val (.int (3 : Int32)), .val (.int (3 : Int32)), .val (.int (3 : Int32)), .val (.int (32 : Int32))] [(.ref a1)])) _
              refine Goes.via (fun t k => XS.iload X0.here hx rfl (hb hby d3_25) rfl k) ?_
              show Goes p e below (s₁.setTop (mkF m 27 #[.val (.ref a1), .val (.int (0 : Int32)), .val (.int (20 : Int32)), .val (.int p4), .val (.int (3 : Int32)), .val (.int (3 : Int32)), .val (.int (3 : Int32)), .val (.int (32 : Int32))] [(.int (3 : Int32)), (.ref a1)])) _
              obtain ⟨cl41, Ar41, qa41, Sa41, Na41, Ha41, Ga41⟩ := id V1
              have hin41 : ¬ ((3 : Int32) < 0 ∨ cl41.slots.size ≤ ((3 : Int32)).toNatClampNeg) := inb_of Sa41 ⟨by decide, by decide⟩
              have hat41 : cl41.slots[((3 : Int32)).toNatClampNeg]? = some (.int (32 : Int32)) := Ha41.at hin41 rfl
              refine Goes.via (fun t k => X0.iaload hx (j := (3 : Int32)) (v := (.int (32 : Int32))) (by rw [e0]; exact Ar41.1) (State.isArrayOf_alike hZ.alike Ar41.2.1) Ar41.2.2 hin41 hat41 (g := (mkF m 27 #[.val (.ref a1), .val (.int (0 : Int32)), .val (.int (20 : Int32)), .val (.int p4), .val (.int (3 : Int32)), .val (.int (3 : Int32)), .val (.int (3 : Int32)), .val (.int (32 : Int32))] [(.int (3 : Int32)), (.ref a1)])) rfl rfl (hb hby d3_27) _ k) ?_
              show Goes p e below (s₁.setTop (mkF m 28 #[.val (.ref a1), .val (.int (0 : Int32)), .val (.int (20 : Int32)), .val (.int p4), .val (.int (3 : Int32)), .val (.int (3 : Int32)), .val (.int (3 : Int32)), .val (.int (32 : Int32))] [(.int (32 : Int32))])) _
              refine Goes.via (fun t k => XS.istore X0.here hx rfl (hb hby d3_28) rfl (l' := #[.val (.ref a1), .val (.int (0 : Int32)), .val (.int (20 : Int32)), .val (.int p4), .val (.int (3 : Int32)), .val (.int (3 : Int32)), .val (.int (3 : Int32)), .val (.int (32 : Int32))]) rfl k) ?_
              show Goes p e below (s₁.setTop (mkF m 30 #[.val (.ref a1), .val (.int (0 : Int32)), .val (.int (20 : Int32)), .val (.int p4), .val (.int (3 : Int32)), .val (.int (3 : Int32)), .val (.int (3 : Int32)), .val (.int (32 : Int32))] [])) _
              refine Goes.via (fun t k => XS.iload X0.here hx rfl (hb hby d3_30) rfl k) ?_
              show Goes p e below (s₁.setTop (mkF m 32 #[.val (.ref a1), .val (.int (0 : Int32)), .val (.int (20 : Int32)), .val (.int p4), .val (.int (3 : Int32)), .val (.int (3 : Int32)), .val (.int (3 : Int32)), .val (.int (32 : Int32))] [(.int (32 : Int32))])) _
              refine Goes.via (fun t k => XS.iloadN X0.here hx rfl (hb hby d3_32) rfl k) ?_
              show Goes p e below (s₁.setTop (mkF m 33 #[.val (.ref a1), .val (.int (0 : Int32)), .val (.int (20 : Int32)), .val (.int p4), .val (.int (3 : Int32)), .val (.int (3 : Int32)), .val (.int (3 : Int32)), .val (.int (32 : Int32))] [(.int p4), (.int (32 : Int32))])) _
              refine Goes.via (fun t k => XS.icmpNo X0.here hx rfl (hb hby d3_33) rfl (tlt hc33_40).2.1 k) ?_
              show Goes p e below (s₁.setTop (mkF m 36 #[.val (.ref a1), .val (.int (0 : Int32)), .val (.int (20 : Int32)), .val (.int p4), .val (.int (3 : Int32)), .val (.int (3 : Int32)), .val (.int (3 : Int32)), .val (.int (32 : Int32))] [])) _
              refine Goes.via (fun t k => XS.iload X0.here hx rfl (hb hby d3_36) rfl k) ?_
              show Goes p e below (s₁.setTop (mkF m 38 #[.val (.ref a1), .val (.int (0 : Int32)), .val (.int (20 : Int32)), .val (.int p4), .val (.int (3 : Int32)), .val (.int (3 : Int32)), .val (.int (3 : Int32)), .val (.int (32 : Int32))] [(.int (3 : Int32))])) _
              refine Goes.via (fun t k => XS.iconst X0.here hx rfl (hb hby d3_38) k) ?_
              show Goes p e below (s₁.setTop (mkF m 39 #[.val (.ref a1), .val (.int (0 : Int32)), .val (.int (20 : Int32)), .val (.int p4), .val (.int (3 : Int32)), .val (.int (3 : Int32)), .val (.int (3 : Int32)), .val (.int (32 : Int32))] [(.int (1 : Int32)), (.int (3 : Int32))])) _
              refine Goes.via (fun t k => XS.iadd X0.here hx rfl (hb hby d3_39) rfl k) ?_
              show Goes p e below (s₁.setTop (mkF m 40 #[.val (.ref a1), .val (.int (0 : Int32)), .val (.int (20 : Int32)), .val (.int p4), .val (.int (3 : Int32)), .val (.int (3 : Int32)), .val (.int (3 : Int32)), .val (.int (32 : Int32))] [(.int (4 : Int32))])) _
              refine Goes.via (fun t k => XS.istore X0.here hx rfl (hb hby d3_40) rfl (l' := #[.val (.ref a1), .val (.int (0 : Int32)), .val (.int (20 : Int32)), .val (.int p4), .val (.int (4 : Int32)), .val (.int (3 : Int32)), .val (.int (3 : Int32)), .val (.int (32 : Int32))]) rfl k) ?_
              show Goes p e below (s₁.setTop (mkF m 42 #[.val (.ref a1), .val (.int (0 : Int32)), .val (.int (20 : Int32)), .val (.int p4), .val (.int (4 : Int32)), .val (.int (3 : Int32)), .val (.int (3 : Int32)), .val (.int (32 : Int32))] [])) _
              refine Goes.via (fun t k => XS.goto X0.here hx rfl (pc0 := 42) (pc' := 63) rfl (hb hby d3_42) (by decide) (by decide) k) ?_
              show Goes p e below (s₁.setTop (mkF m 63 #[.val (.ref a1), .val (.int (0 : Int32)), .val (.int (20 : Int32)), .val (.int p4), .val (.int (4 : Int32)), .val (.int (3 : Int32)), .val (.int (3 : Int32)), .val (.int (32 : Int32))] [])) _
              refine Goes.via (fun t k => XS.goto X0.here hx rfl (pc0 := 63) (pc' := 8) rfl (hb hby d3_63) (by decide) (by decide) k) ?_
              show Goes p e below (s₁.setTop (mkF m 8 #[.val (.ref a1), .val (.int (0 : Int32)), .val (.int (20 : Int32)), .val (.int p4), .val (.int (4 : Int32)), .val (.int (3 : Int32)), .val (.int (3 : Int32)), .val (.int (32 : Int32))] [])) _
              refine Goes.via (fun t k => XS.iload X0.here hx rfl (hb hby d3_8) rfl k) ?_
              show Goes p e below (s₁.setTop (mkF m 10 #[.val (.ref a1), .val (.int (0 : Int32)), .val (.int (20 : Int32)), .val (.int p4), .val (.int (4 : Int32)), .val (.int (3 : Int32)), .val (.int (3 : Int32)), .val (.int (32 : Int32))] [(.int (4 : Int32))])) _
              refine Goes.via (fun t k => XS.iload X0.here hx rfl (hb hby d3_10) rfl k) ?_
              show Goes p e below (s₁.setTop (mkF m 12 #[.val (.ref a1), .val (.int (0 : Int32)), .val (.int (20 : Int32)), .val (.int p4), .val (.int (4 : Int32)), .val (.int (3 : Int32)), .val (.int (3 : Int32)), .val (.int (32 : Int32))] [(.int (3 : Int32)), (.int (4 : Int32))])) _
              refine Goes.via (fun t k => XS.icmpYes X0.here hx rfl (pc0 := 12) (pc' := 66) rfl (hb hby d3_12) rfl (tlt (show (3 : Int32) < (4 : Int32) from (by decide))).2.2.1 (by decide) (by decide) k) ?_
              show Goes p e below (s₁.setTop (mkF m 66 #[.val (.ref a1), .val (.int (0 : Int32)), .val (.int (20 : Int32)), .val (.int p4), .val (.int (4 : Int32)), .val (.int (3 : Int32)), .val (.int (3 : Int32)), .val (.int (32 : Int32))] [])) _
              refine Goes.via (fun t k => XS.iload X0.here hx rfl (hb hby d3_66) rfl k) ?_
              show Goes p e below (s₁.setTop (mkF m 68 #[.val (.ref a1), .val (.int (0 : Int32)), .val (.int (20 : Int32)), .val (.int p4), .val (.int (4 : Int32)), .val (.int (3 : Int32)), .val (.int (3 : Int32)), .val (.int (32 : Int32))] [(.int (4 : Int32))])) _
              refine Goes.via (fun t k => XS.iconst X0.here hx rfl (hb hby d3_68) k) ?_
              show Goes p e below (s₁.setTop (mkF m 69 #[.val (.ref a1), .val (.int (0 : Int32)), .val (.int (20 : Int32)), .val (.int p4), .val (.int (4 : Int32)), .val (.int (3 : Int32)), .val (.int (3 : Int32)), .val (.int (32 : Int32))] [(.int (1 : Int32)), (.int (4 : Int32))])) _
              refine Goes.via (fun t k => XS.iadd X0.here hx rfl (hb hby d3_69) rfl k) ?_
              show Goes p e below (s₁.setTop (mkF m 70 #[.val (.ref a1), .val (.int (0 : Int32)), .val (.int (20 : Int32)), .val (.int p4), .val (.int (4 : Int32)), .val (.int (3 : Int32)), .val (.int (3 : Int32)), .val (.int (32 : Int32))] [(.int (5 : Int32))])) _
              refine Goes.via (fun t k => XS.ineg X0.here hx rfl (hb hby d3_70) rfl k) ?_
              show Goes p e below (s₁.setTop (mkF m 71 #[.val (.ref a1), .val (.int (0 : Int32)), .val (.int (20 : Int32)), .val (.int p4), .val (.int (4 : Int32)), .val (.int (3 : Int32)), .val (.int (3 : Int32)), .val (.int (32 : Int32))] [(.int (-5 : Int32))])) _
              obtain ⟨fs, hr, hrun, hended, hW, hsame⟩ := X0.leave (v := some (.int (-5 : Int32))) (fun h => by rw [Bd.returns] at h; cases h)
              refine ⟨_, _, ?_, hrun, hended, _, _, rfl, ?_, ⟨_, rfl⟩, hW, hsame.mono (by decide) (by decide)⟩
              · exact retI X0 hx Bd.returns (hb hby d3_71) hr
              · show Q3 Z a1 p4 h0 n0 _ s₁.heap _
                rw [e0]
                exact ⟨congrArg some (congrArg _ (by simp only [f3, if_neg hc33_2, if_pos hc48_25, if_neg hc33_27, if_pos hc48_36, if_pos hc33_38, if_pos hc33_40])), N0, rfl⟩
            · refine Goes.via (fun t k => XS.icmpYes X0.here hx rfl (pc0 := 33) (pc' := 45) rfl (hb hby d3_33) rfl (flt hc33_40).2.1 (by decide) (by decide) k) ?_
              show Goes p e below (s₁.setTop (mkF m 45 #[.val (.ref a1), .val (.int (0 : Int32)), .val (.int (20 : Int32)), .val (.int p4), .val (.int (2 : Int32)), .val (.int (3 : Int32)), .val (.int (2 : Int32)), .val (.int (32 : Int32))] [])) _
              refine Goes.via (fun t k => XS.iload X0.here hx rfl (hb hby d3_45) rfl k) ?_
              show Goes p e below (s₁.setTop (mkF m 47 #[.val (.ref a1), .val (.int (0 : Int32)), .val (.int (20 : Int32)), .val (.int p4), .val (.int (2 : Int32)), .val (.int (3 : Int32)), .val (.int (2 : Int32)), .val (.int (32 : Int32))] [(.int (32 : Int32))])) _
              refine Goes.via (fun t k => XS.iloadN X0.here hx rfl (hb hby d3_47) rfl k) ?_
              show Goes p e below (s₁.setTop (mkF m 48 #[.val (.ref a1), .val (.int (0 : Int32)), .val (.int (20 : Int32)), .val (.int p4), .val (.int (2 : Int32)), .val (.int (3 : Int32)), .val (.int (2 : Int32)), .val (.int (32 : Int32))] [(.int p4), (.int (32 : Int32))])) _
              by_cases hc48_42 : p4 < (32 : Int32)
              · refine Goes.via (fun t k => XS.icmpNo X0.here hx rfl (hb hby d3_48) rfl (tlt hc48_42).2.2.2 k) ?_
                show Goes p e below (s₁.setTop (mkF m 51 #[.val (.ref a1), .val (.int (0 : Int32)), .val (.int (20 : Int32)), .val (.int p4), .val (.int (2 : Int32)), .val (.int (3 : Int32)), .val (.int (2 : Int32)), .val (.int (32 : Int32))] [])) _
                refine Goes.via (fun t k => XS.iload X0.here hx rfl (hb hby d3_51) rfl k) ?_
                show Goes p e below (s₁.setTop (mkF m 53 #[.val (.ref a1), .val (.int (0 : Int32)), .val (.int (20 : Int32)), .val (.int p4), .val (.int (2 : Int32)), .val (.int (3 : Int32)), .val (.int (2 : Int32)), .val (.int (32 : Int32))] [(.int (2 : Int32))])) _
                refine Goes.via (fun t k => XS.iconst X0.here hx rfl (hb hby d3_53) k) ?_
                show Goes p e below (s₁.setTop (mkF m 54 #[.val (.ref a1), .val (.int (0 : Int32)), .val (.int (20 : Int32)), .val (.int p4), .val (.int (2 : Int32)), .val (.int (3 : Int32)), .val (.int (2 : Int32)), .val (.int (32 : Int32))] [(.int (1 : Int32)), (.int (2 : Int32))])) _
                refine Goes.via (fun t k => XS.isub X0.here hx rfl (hb hby d3_54) rfl k) ?_
                show Goes p e below (s₁.setTop (mkF m 55 #[.val (.ref a1), .val (.int (0 : Int32)), .val (.int (20 : Int32)), .val (.int p4), .val (.int (2 : Int32)), .val (.int (3 : Int32)), .val (.int (2 : Int32)), .val (.int (32 : Int32))] [(.int (1 : Int32))])) _
                refine Goes.via (fun t k => XS.istore X0.here hx rfl (hb hby d3_55) rfl (l' := #[.val (.ref a1), .val (.int (0 : Int32)), .val (.int (20 : Int32)), .val (.int p4), .val (.int (2 : Int32)), .val (.int (1 : Int32)), .val (.int (2 : Int32)), .val (.int (32 : Int32))]) rfl k) ?_
                show Goes p e below (s₁.setTop (mkF m 57 #[.val (.ref a1), .val (.int (0 : Int32)), .val (.int (20 : Int32)), .val (.int p4), .val (.int (2 : Int32)), .val (.int (1 : Int32)), .val (.int (2 : Int32)), .val (.int (32 : Int32))] [])) _
                refine Goes.via (fun t k => XS.goto X0.here hx rfl (pc0 := 57) (pc' := 63) rfl (hb hby d3_57) (by decide) (by decide) k) ?_
                show Goes p e below (s₁.setTop (mkF m 63 #[.val (.ref a1), .val (.int (0 : Int32)), .val (.int (20 : Int32)), .val (.int p4), .val (.int (2 : Int32)), .val (.int (1 : Int32)), .val (.int (2 : Int32)), .val (.int (32 : Int32))] [])) _
                refine Goes.via (fun t k => XS.goto X0.here hx rfl (pc0 := 63) (pc' := 8) rfl (hb hby d3_63) (by decide) (by decide) k) ?_
                show Goes p e below (s₁.setTop (mkF m 8 #[.val (.ref a1), .val (.int (0 : Int32)), .val (.int (20 : Int32)), .val (.int p4), .val (.int (2 : Int32)), .val (.int (1 : Int32)), .val (.int (2 : Int32)), .val (.int (32 : Int32))] [])) _
                refine Goes.via (fun t k => XS.iload X0.here hx rfl (hb hby d3_8) rfl k) ?_
                show Goes p e below (s₁.setTop (mkF m 10 #[.val (.ref a1), .val (.int (0 : Int32)), .val (.int (20 : Int32)), .val (.int p4), .val (.int (2 : Int32)), .val (.int (1 : Int32)), .val (.int (2 : Int32)), .val (.int (32 : Int32))] [(.int (2 : Int32))])) _
                refine Goes.via (fun t k => XS.iload X0.here hx rfl (hb hby d3_10) rfl k) ?_
                show Goes p e below (s₁.setTop (mkF m 12 #[.val (.ref a1), .val (.int (0 : Int32)), .val (.int (20 : Int32)), .val (.int p4), .val (.int (2 : Int32)), .val (.int (1 : Int32)), .val (.int (2 : Int32)), .val (.int (32 : Int32))] [(.int (1 : Int32)), (.int (2 : Int32))])) _
                refine Goes.via (fun t k => XS.icmpYes X0.here hx rfl (pc0 := 12) (pc' := 66) rfl (hb hby d3_12) rfl (tlt (show (1 : Int32) < (2 : Int32) from (by decide))).2.2.1 (by decide) (by decide) k) ?_
                show Goes p e below (s₁.setTop (mkF m 66 #[.val (.ref a1), .val (.int (0 : Int32)), .val (.int (20 : Int32)), .val (.int p4), .val (.int (2 : Int32)), .val (.int (1 : Int32)), .val (.int (2 : Int32)), .val (.int (32 : Int32))] [])) _
                refine Goes.via (fun t k => XS.iload X0.here hx rfl (hb hby d3_66) rfl k) ?_
                show Goes p e below (s₁.setTop (mkF m 68 #[.val (.ref a1), .val (.int (0 : Int32)), .val (.int (20 : Int32)), .val (.int p4), .val (.int (2 : Int32)), .val (.int (1 : Int32)), .val (.int (2 : Int32)), .val (.int (32 : Int32))] [(.int (2 : Int32))])) _
                refine Goes.via (fun t k => XS.iconst X0.here hx rfl (hb hby d3_68) k) ?_
                show Goes p e below (s₁.setTop (mkF m 69 #[.val (.ref a1), .val (.int (0 : Int32)), .val (.int (20 : Int32)), .val (.int p4), .val (.int (2 : Int32)), .val (.int (1 : Int32)), .val (.int (2 : Int32)), .val (.int (32 : Int32))] [(.int (1 : Int32)), (.int (2 : Int32))])) _
                refine Goes.via (fun t k => XS.iadd X0.here hx rfl (hb hby d3_69) rfl k) ?_
                show Goes p e below (s₁.setTop (mkF m 70 #[.val (.ref a1), .val (.int (0 : Int32)), .val (.int (20 : Int32)), .val (.int p4), .val (.int (2 : Int32)), .val (.int (1 : Int32)), .val (.int (2 : Int32)), .val (.int (32 : Int32))] [(.int (3 : Int32))])) _
                refine Goes.via (fun t k => XS.ineg X0.here hx rfl (hb hby d3_70) rfl k) ?_
                show Goes p e below (s₁.setTop (mkF m 71 #[.val (.ref a1), .val (.int (0 : Int32)), .val (.int (20 : Int32)), .val (.int p4), .val (.int (2 : Int32)), .val (.int (1 : Int32)), .val (.int (2 : Int32)), .val (.int (32 : Int32))] [(.int (-3 : Int32))])) _
                obtain ⟨fs, hr, hrun, hended, hW, hsame⟩ := X0.leave (v := some (.int (-3 : Int32))) (fun h => by rw [Bd.returns] at h; cases h)
                refine ⟨_, _, ?_, hrun, hended, _, _, rfl, ?_, ⟨_, rfl⟩, hW, hsame.mono (by decide) (by decide)⟩
                · exact retI X0 hx Bd.returns (hb hby d3_71) hr
                · show Q3 Z a1 p4 h0 n0 _ s₁.heap _
                  rw [e0]
                  exact ⟨congrArg some (congrArg _ (by simp only [f3, if_neg hc33_2, if_pos hc48_25, if_neg hc33_27, if_pos hc48_36, if_pos hc33_38, if_neg hc33_40, if_pos hc48_42])), N0, rfl⟩
              · refine Goes.via (fun t k => XS.icmpYes X0.here hx rfl (pc0 := 48) (pc' := 60) rfl (hb hby d3_48) rfl (flt hc48_42).2.2.2 (by decide) (by decide) k) ?_
                show Goes p e below (s₁.setTop (mkF m 60 #[.val (.ref a1), .val (.int (0 : Int32)), .val (.int (20 : Int32)), .val (.int p4), .val (.int (2 : Int32)), .val (.int (3 : Int32)), .val (.int (2 : Int32)), .val (.int (32 : Int32))] [])) _
                refine Goes.via (fun t k => XS.iload X0.here hx rfl (hb hby d3_60) rfl k) ?_
                show Goes p e below (s₁.setTop (mkF m 62 #[.val (.ref a1), .val (.int (0 : Int32)), .val (.int (20 : Int32)), .val (.int p4), .val (.int (2 : Int32)), .val (.int (3 : Int32)), .val (.int (2 : Int32)), .val (.int (32 : Int32))] [(.int (2 : Int32))])) _
                obtain ⟨fs, hr, hrun, hended, hW, hsame⟩ := X0.leave (v := some (.int (2 : Int32))) (fun h => by rw [Bd.returns] at h; cases h)
                refine ⟨_, _, ?_, hrun, hended, _, _, rfl, ?_, ⟨_, rfl⟩, hW, hsame.mono (by decide) (by decide)⟩
                · exact retI X0 hx Bd.returns (hb hby d3_62) hr
                · show Q3 Z a1 p4 h0 n0 _ s₁.heap _
                  rw [e0]
                  exact ⟨congrArg some (congrArg _ (by simp only [f3, if_neg hc33_2, if_pos hc48_25, if_neg hc33_27, if_pos hc48_36, if_pos hc33_38, if_neg hc33_40, if_neg hc48_42])), N0, rfl⟩
          · refine Goes.via (fun t k => XS.icmpYes X0.here hx rfl (pc0 := 33) (pc' := 45) rfl (hb hby d3_33) rfl (flt hc33_38).2.1 (by decide) (by decide) k) ?_
            show Goes p e below (s₁.setTop (mkF m 45 #[.val (.ref a1), .val (.int (0 : Int32)), .val (.int (20 : Int32)), .val (.int p4), .val (.int (0 : Int32)), .val (.int (3 : Int32)), .val (.int (1 : Int32)), .val (.int (13 : Int32))] [])) _
            refine Goes.via (fun t k => XS.iload X0.here hx rfl (hb hby d3_45) rfl k) ?_
            show Goes p e below (s₁.setTop (mkF m 47 #[.val (.ref a1), .val (.int (0 : Int32)), .val (.int (20 : Int32)), .val (.int p4), .val (.int (0 : Int32)), .val (.int (3 : Int32)), .val (.int (1 : Int32)), .val (.int (13 : Int32))] [(.int (13 : Int32))])) _
            refine Goes.via (fun t k => XS.iloadN X0.here hx rfl (hb hby d3_47) rfl k) ?_
            show Goes p e below (s₁.setTop (mkF m 48 #[.val (.ref a1), .val (.int (0 : Int32)), .val (.int (20 : Int32)), .val (.int p4), .val (.int (0 : Int32)), .val (.int (3 : Int32)), .val (.int (1 : Int32)), .val (.int (13 : Int32))] [(.int p4), (.int (13 : Int32))])) _
            by_cases hc48_43 : p4 < (13 : Int32)
            · refine Goes.via (fun t k => XS.icmpNo X0.here hx rfl (hb hby d3_48) rfl (tlt hc48_43).2.2.2 k) ?_
              show Goes p e below (s₁.setTop (mkF m 51 #[.val (.ref a1), .val (.int (0 : Int32)), .val (.int (20 : Int32)), .val (.int p4), .val (.int (0 : Int32)), .val (.int (3 : Int32)), .val (.int (1 : Int32)), .val (.int (13 : Int32))] [])) _
              refine Goes.via (fun t k => XS.iload X0.here hx rfl (hb hby d3_51) rfl k) ?_
              show Goes p e below (s₁.setTop (mkF m 53 #[.val (.ref a1), .val (.int (0 : Int32)), .val (.int (20 : Int32)), .val (.int p4), .val (.int (0 : Int32)), .val (.int (3 : Int32)), .val (.int (1 : Int32)), .val (.int (13 : Int32))] [(.int (1 : Int32))])) _
              refine Goes.via (fun t k => XS.iconst X0.here hx rfl (hb hby d3_53) k) ?_
              show Goes p e below (s₁.setTop (mkF m 54 #[.val (.ref a1), .val (.int (0 : Int32)), .val (.int (20 : Int32)), .val (.int p4), .val (.int (0 : Int32)), .val (.int (3 : Int32)), .val (.int (1 : Int32)), .val (.int (13 : Int32))] [(.int (1 : Int32)), (.int (1 : Int32))])) _
              refine Goes.via (fun t k => XS.isub X0.here hx rfl (hb hby d3_54) rfl k) ?_
              show Goes p e below (s₁.setTop (mkF m 55 #[.val (.ref a1), .val (.int (0 : Int32)), .val (.int (20 : Int32)), .val (.int p4), .val (.int (0 : Int32)), .val (.int (3 : Int32)), .val (.int (1 : Int32)), .val (.int (13 : Int32))] [(.int (0 : Int32))])) _
              refine Goes.via (fun t k => XS.istore X0.here hx rfl (hb hby d3_55) rfl (l' := #[.val (.ref a1), .val (.int (0 : Int32)), .val (.int (20 : Int32)), .val (.int p4), .val (.int (0 : Int32)), .val (.int (0 : Int32)), .val (.int (1 : Int32)), .val (.int (13 : Int32))]) rfl k) ?_
              show Goes p e below (s₁.setTop (mkF m 57 #[.val (.ref a1), .val (.int (0 : Int32)), .val (.int (20 : Int32)), .val (.int p4), .val (.int (0 : Int32)), .val (.int (0 : Int32)), .val (.int (1 : Int32)), .val (.int (13 : Int32))] [])) _
              refine Goes.via (fun t k => XS.goto X0.here hx rfl (pc0 := 57) (pc' := 63) rfl (hb hby d3_57) (by decide) (by decide) k) ?_
              show Goes p e below (s₁.setTop (mkF m 63 #[.val (.ref a1), .val (.int (0 : Int32)), .val (.int (20 : Int32)), .val (.int p4), .val (.int (0 : Int32)), .val (.int (0 : Int32)), .val (.int (1 : Int32)), .val (.int (13 : Int32))] [])) _
              refine Goes.via (fun t k => XS.goto X0.here hx rfl (pc0 := 63) (pc' := 8) rfl (hb hby d3_63) (by decide) (by decide) k) ?_
              show Goes p e below (s₁.setTop (mkF m 8 #[.val (.ref a1), .val (.int (0 : Int32)), .val (.int (20 : Int32)), .val (.int p4), .val (.int (0 : Int32)), .val (.int (0 : Int32)), .val (.int (1 : Int32)), .val (.int (13 : Int32))] [])) _
              refine Goes.via (fun t k => XS.iload X0.here hx rfl (hb hby d3_8) rfl k) ?_
              show Goes p e below (s₁.setTop (mkF m 10 #[.val (.ref a1), .val (.int (0 : Int32)), .val (.int (20 : Int32)), .val (.int p4), .val (.int (0 : Int32)), .val (.int (0 : Int32)), .val (.int (1 : Int32)), .val (.int (13 : Int32))] [(.int (0 : Int32))])) _
              refine Goes.via (fun t k => XS.iload X0.here hx rfl (hb hby d3_10) rfl k) ?_
              show Goes p e below (s₁.setTop (mkF m 12 #[.val (.ref a1), .val (.int (0 : Int32)), .val (.int (20 : Int32)), .val (.int p4), .val (.int (0 : Int32)), .val (.int (0 : Int32)), .val (.int (1 : Int32)), .val (.int (13 : Int32))] [(.int (0 : Int32)), (.int (0 : Int32))])) _
              refine Goes.via (fun t k => XS.icmpNo X0.here hx rfl (hb hby d3_12) rfl (flt (show ¬ ((0 : Int32) < (0 : Int32)) from (by decide))).2.2.1 k) ?_
              show Goes p e below (s₁.setTop (mkF m 15 #[.val (.ref a1), .val (.int (0 : Int32)), .val (.int (20 : Int32)), .val (.int p4), .val (.int (0 : Int32)), .val (.int (0 : Int32)), .val (.int (1 : Int32)), .val (.int (13 : Int32))] [])) _
              refine Goes.via (fun t k => XS.iload X0.here hx rfl (hb hby d3_15) rfl k) ?_
              show Goes p e below (s₁.setTop (mkF m 17 #[.val (.ref a1), .val (.int (0 : Int32)), .val (.int (20 : Int32)), .val (.int p4), .val (.int (0 : Int32)), .val (.int (0 : Int32)), .val (.int (1 : Int32)), .val (.int (13 : Int32))] [(.int (0 : Int32))])) _
              refine Goes.via (fun t k => XS.iload X0.here hx rfl (hb hby d3_17) rfl k) ?_
              show Goes p e below (s₁.setTop (mkF m 19 #[.val (.ref a1), .val (.int (0 : Int32)), .val (.int (20 : Int32)), .val (.int p4), .val (.int (0 : Int32)), .val (.int (0 : Int32)), .val (.int (1 : Int32)), .val (.int (13 : Int32))] [(.int (0 : Int32)), (.int (0 : Int32))])) _
              refine Goes.via (fun t k => XS.iadd X0.here hx rfl (hb hby d3_19) rfl k) ?_
              show Goes p e below (s₁.setTop (mkF m 20 #[.val (.ref a1), .val (.int (0 : Int32)), .val (.int (20 : Int32)), .val (.int p4), .val (.int (0 : Int32)), .val (.int (0 : Int32)), .val (.int (1 : Int32)), .val (.int (13 : Int32))] [(.int (0 : Int32))])) _
              refine Goes.via (fun t k => XS.iconst X0.here hx rfl (hb hby d3_20) k) ?_
              show Goes p e below (s₁.setTop (mkF m 21 #[.val (.ref a1), .val (.int (0 : Int32)), .val (.int (20 : Int32)), .val (.int p4), .val (.int (0 : Int32)), .val (.int (0 : Int32)), .val (.int (1 : Int32)), .val (.int (13 : Int32))] [(.int (1 : Int32)), (.int (0 : Int32))])) _
              refine Goes.via (fun t k => XS.iushr X0.here hx rfl (hb hby d3_21) rfl k) ?_
              show Goes p e below (s₁.setTop (mkF m 22 #[.val (.ref a1), .val (.int (0 : Int32)), .val (.int (20 : Int32)), .val (.int p4), .val (.int (0 : Int32)), .val (.int (0 : Int32)), .val (.int (1 : Int32)), .val (.int (13 : Int32))] [(.int (0 : Int32))])) _
              refine Goes.via (fun t k => XS.istore X0.here hx rfl (hb hby d3_22) rfl (l' := #[.val (.ref a1), .val (.int (0 : Int32)), .val (.int (20 : Int32)), .val (.int p4), .val (.int (0 : Int32)), .val (.int (0 : Int32)), .val (.int (0 : Int32)), .val (.int (13 : Int32))]) rfl k) ?_
              show Goes p e below (s₁.setTop (mkF m 24 #[.val (.ref a1), .val (.int (0 : Int32)), .val (.int (20 : Int32)), .val (.int p4), .val (.int (0 : Int32)), .val (.int (0 : Int32)), .val (.int (0 : Int32)), .val (.int (13 : Int32))] [])) _
              refine Goes.via (fun t k => XS.aloadN X0.here hx rfl (hb hby d3_24) rfl rfl k) ?_
              show Goes p e below (s₁.setTop (mkF m 25 #[.val (.ref a1), .val (.int (0 : Int32)), .val (.int (20 : Int32)), .val (.int p4), .val (.int (0 : Int32)), .val (.int (0 : Int32)), .val (.int (0 : Int32)), .val (.int (13 : Int32))] [(.ref a1)])) _
              refine Goes.via (fun t k => XS.iload X0.here hx rfl (hb hby d3_25) rfl k) ?_
              show Goes p e below (s₁.setTop (mkF m 27 #[.val (.ref a1), .val (.int (0 : Int32)), .val (.int (20 : Int32)), .val (.int p4), .val (.int (0 : Int32)), .val (.int (0 : Int32)), .val (.int (0 : Int32)), .val (.int (13 : Int32))] [(.int (0 : Int32)), (.ref a1)])) _
              obtain ⟨cl44, Ar44, qa44, Sa44, Na44, Ha44, Ga44⟩ := id V1
              have hin44 : ¬ ((0 : Int32) < 0 ∨ cl44.slots.size ≤ ((0 : Int32)).toNatClampNeg) := inb_of Sa44 ⟨by decide, by decide⟩
              have hat44 : cl44.slots[((0 : Int32)).toNatClampNeg]? = some (.int (9 : Int32)) := Ha44.at hin44 rfl
              refine Goes.via (fun t k => X0.iaload hx (j := (0 : Int32)) (v := (.int (9 : Int32))) (by rw [e0]; exact Ar44.1) (State.isArrayOf_alike hZ.alike Ar44.2.1) Ar44.2.2 hin44 hat44 (g := (mkF m 27 #[.val (.ref a1), .val (.int (0 : Int32)), .val (.int (20 : Int32)), .val (.int p4), .val (.int (0 : Int32)), .val (.int (0 : Int32)), .val (.int (0 : Int32)), .val (.int (13 : Int32))] [(.int (0 : Int32)), (.ref a1)])) rfl rfl (hb hby d3_27) _ k) ?_
              show Goes p e below (s₁.setTop (mkF m 28 #[.val (.ref a1), .val (.int (0 : Int32)), .val (.int (20 : Int32)), .val (.int p4), .val (.int (0 : Int32)), .val (.int (0 : Int32)), .val (.int (0 : Int32)), .val (.int (13 : Int32))] [(.int (9 : Int32))])) _
              refine Goes.via (fun t k => XS.istore X0.here hx rfl (hb hby d3_28) rfl (l' := #[.val (.ref a1), .val (.int (0 : Int32)), .val (.int (20 : Int32)), .val (.int p4), .val (.int (0 : Int32)), .val (.int (0 : Int32)), .val (.int (0 : Int32)), .val (.int (9 : Int32))]) rfl k) ?_
              show Goes p e below (s₁.setTop (mkF m 30 #[.val (.ref a1), .val (.int (0 : Int32)), .val (.int (20 : Int32)), .val (.int p4), .val (.int (0 : Int32)), .val (.int (0 : Int32)), .val (.int (0 : Int32)), .val (.int (9 : Int32))] [])) _
              refine Goes.via (fun t k => XS.iload X0.here hx rfl (hb hby d3_30) rfl k) ?_
              show Goes p e below (s₁.setTop (mkF m 32 #[.val (.ref a1), .val (.int (0 : Int32)), .val (.int (20 : Int32)), .val (.int p4), .val (.int (0 : Int32)), .val (.int (0 : Int32)), .val (.int (0 : Int32)), .val (.int (9 : Int32))] [(.int (9 : Int32))])) _
              refine Goes.via (fun t k => XS.iloadN X0.here hx rfl (hb hby d3_32) rfl k) ?_
              show Goes p e below (s₁.setTop (mkF m 33 #[.val (.ref a1), .val (.int (0 : Int32)), .val (.int (20 : Int32)), .val (.int p4), .val (.int (0 : Int32)), .val (.int (0 : Int32)), .val (.int (0 : Int32)), .val (.int (9 : Int32))] [(.int p4), (.int (9 : Int32))])) _
              by_cases hc33_45 : (9 : Int32) < p4
              · refine Goes.via (fun t k => XS.icmpNo X0.here hx rfl (hb hby d3_33) rfl (tlt hc33_45).2.1 k) ?_
                show Goes p e below (s₁.setTop (mkF m 36 #[.val (.ref a1), .val (.int (0 : Int32)), .val (.int (20 : Int32)), .val (.int p4), .val (.int (0 : Int32)), .val (.int (0 : Int32)), .val (.int (0 : Int32)), .val (.int (9 : Int32))] [])) _
                refine Goes.via (fun t k => XS.iload X0.here hx rfl (hb hby d3_36) rfl k) ?_
                show Goes p e below (s₁.setTop (mkF m 38 #[.val (.ref a1), .val (.int (0 : Int32)), .val (.int (20 : Int32)), .val (.int p4), .val (.int (0 : Int32)), .val (.int (0 : Int32)), .val (.int (0 : Int32)), .val (.int (9 : Int32))] [(.int (0 : Int32))])) _
                refine Goes.via (fun t k => XS.iconst X0.here hx rfl (hb hby d3_38) k) ?_
                show Goes p e below (s₁.setTop (mkF m 39 #[.val (.ref a1), .val (.int (0 : Int32)), .val (.int (20 : Int32)), .val (.int p4), .val (.int (0 : Int32)), .val (.int (0 : Int32)), .val (.int (0 : Int32)), .val (.int (9 : Int32))] [(.int (1 : Int32)), (.int (0 : Int32))])) _
                refine Goes.via (fun t k => XS.iadd X0.here hx rfl (hb hby d3_39) rfl k) ?_
                show Goes p e below (s₁.setTop (mkF m 40 #[.val (.ref a1), .val (.int (0 : Int32)), .val (.int (20 : Int32)), .val (.int p4), .val (.int (0 : Int32)), .val (.int (0 : Int32)), .val (.int (0 : Int32)), .val (.int (9 : Int32))] [(.int (1 : Int32))])) _
                refine Goes.via (fun t k => XS.istore X0.here hx rfl (hb hby d3_40) rfl (l' := #[.val (.ref a1), .val (.int (0 : Int32)), .val (.int (20 : Int32)), .val (.int p4), .val (.int (1 : Int32)), .val (.int (0 : Int32)), .val (.int (0 : Int32)), .val (.int (9 : Int32))]) rfl k) ?_
                show Goes p e below (s₁.setTop (mkF m 42 #[.val (.ref a1), .val (.int (0 : Int32)), .val (.int (20 : Int32)), .val (.int p4), .val (.int (1 : Int32)), .val (.int (0 : Int32)), .val (.int (0 : Int32)), .val (.int (9 : Int32))] [])) _
                refine Goes.via (fun t k => XS.goto X0.here hx rfl (pc0 := 42) (pc' := 63) rfl (hb hby d3_42) (by decide) (by decide) k) ?_
                show Goes p e below (s₁.setTop (mkF m 63 #[.val (.ref a1), .val (.int (0 : Int32)), .val (.int (20 : Int32)), .val (.int p4), .val (.int (1 : Int32)), .val (.int (0 : Int32)), .val (.int (0 : Int32)), .val (.int (9 : Int32))] [])) _
                refine Goes.via (fun t k => XS.goto X0.here hx rfl (pc0 := 63) (pc' := 8) rfl (hb hby d3_63) (by decide) (by decide) k) ?_
                show Goes p e below (s₁.setTop (mkF m 8 #[.val (.ref a1), .val (.int (0 : Int32)), .val (.int (20 : Int32)), .val (.int p4), .val (.int (1 : Int32)), .val (.int (0 : Int32)), .val (.int (0 : Int32)), .val (.int (9 : Int32))] [])) _
                refine Goes.via (fun t k => XS.iload X0.here hx rfl (hb hby d3_8) rfl k) ?_
                show Goes p e below (s₁.setTop (mkF m 10 #[.val (.ref a1), .val (.int (0 : Int32)), .val (.int (20 : Int32)), .val (.int p4), .val (.int (1 : Int32)), .val (.int (0 : Int32)), .val (.int (0 : Int32)), .val (.int (9 : Int32))] [(.int (1 : Int32))])) _
                refine Goes.via (fun t k => XS.iload X0.here hx rfl (hb hby d3_10) rfl k) ?_
                show Goes p e below (s₁.setTop (mkF m 12 #[.val (.ref a1), .val (.int (0 : Int32)), .val (.int (20 : Int32)), .val (.int p4), .val (.int (1 : Int32)), .val (.int (0 : Int32)), .val (.int (0 : Int32)), .val (.int (9 : Int32))] [(.int (0 : Int32)), (.int (1 : Int32))])) _
                refine Goes.via (fun t k => XS.icmpYes X0.here hx rfl (pc0 := 12) (pc' := 66) rfl (hb hby d3_12) rfl (tlt (show (0 : Int32) < (1 : Int32) from (by decide))).2.2.1 (by decide) (by decide) k) ?_
                show Goes p e below (s₁.setTop (mkF m 66 #[.val (.ref a1), .val (.int (0 : Int32)), .val (.int (20 : Int32)), .val (.int p4), .val (.int (1 : Int32)), .val (.int (0 : Int32)), .val (.int (0 : Int32)), .val (.int (9 : Int32))] [])) _
                refine Goes.via (fun t k => XS.iload X0.here hx rfl (hb hby d3_66) rfl k) ?_
                show Goes p e below (s₁.setTop (mkF m 68 #[.val (.ref a1), .val (.int (0 : Int32)), .val (.int (20 : Int32)), .val (.int p4), .val (.int (1 : Int32)), .val (.int (0 : Int32)), .val (.int (0 : Int32)), .val (.int (9 : Int32))] [(.int (1 : Int32))])) _
                refine Goes.via (fun t k => XS.iconst X0.here hx rfl (hb hby d3_68) k) ?_
                show Goes p e below (s₁.setTop (mkF m 69 #[.val (.ref a1), .val (.int (0 : Int32)), .val (.int (20 : Int32)), .val (.int p4), .val (.int (1 : Int32)), .val (.int (0 : Int32)), .val (.int (0 : Int32)), .val (.int (9 : Int32))] [(.int (1 : Int32)), (.int (1 : Int32))])) _
                refine Goes.via (fun t k => XS.iadd X0.here hx rfl (hb hby d3_69) rfl k) ?_
                show Goes p e below (s₁.setTop (mkF m 70 #[.val (.ref a1), .val (.int (0 : Int32)), .val (.int (20 : Int32)), .val (.int p4), .val (.int (1 : Int32)), .val (.int (0 : Int32)), .val (.int (0 : Int32)), .val (.int (9 : Int32))] [(.int (2 : Int32))])) _
                refine Goes.via (fun t k => XS.ineg X0.here hx rfl (hb hby d3_70) rfl k) ?_
                show Goes p e below (s₁.setTop (mkF m 71 #[.val (.ref a1), .val (.int (0 : Int32)), .val (.int (20 : Int32)), .val (.int p4), .val (.int (1 : Int32)), .val (.int (0 : Int32)), .val (.int (0 : Int32)), .val (.int (9 : Int32))] [(.int (-2 : Int32))])) _
                obtain ⟨fs, hr, hrun, hended, hW, hsame⟩ := X0.leave (v := some (.int (-2 : Int32))) (fun h => by rw [Bd.returns] at h; cases h)
                refine ⟨_, _, ?_, hrun, hended, _, _, rfl, ?_, ⟨_, rfl⟩, hW, hsame.mono (by decide) (by decide)⟩
                · exact retI X0 hx Bd.returns (hb hby d3_71) hr
                · show Q3 Z a1 p4 h0 n0 _ s₁.heap _
                  rw [e0]
                  exact ⟨congrArg some (congrArg _ (by simp only [f3, if_neg hc33_2, if_pos hc48_25, if_neg hc33_27, if_pos hc48_36, if_neg hc33_38, if_pos hc48_43, if_pos hc33_45])), N0, rfl⟩
              · refine Goes.via (fun t k => XS.icmpYes X0.here hx rfl (pc0 := 33) (pc' := 45) rfl (hb hby d3_33) rfl (flt hc33_45).2.1 (by decide) (by decide) k) ?_
                show Goes p e below (s₁.setTop (mkF m 45 #[.val (.ref a1), .val (.int (0 : Int32)), .val (.int (20 : Int32)), .val (.int p4), .val (.int (0 : Int32)), .val (.int (0 : Int32)), .val (.int (0 : Int32)), .val (.int (9 : Int32))] [])) _
                refine Goes.via (fun t k => XS.iload X0.here hx rfl (hb hby d3_45) rfl k) ?_
                show Goes p e below (s₁.setTop (mkF m 47 #[.val (.ref a1), .val (.int (0 : Int32)), .val (.int (20 : Int32)), .val (.int p4), .val (.int (0 : Int32)), .val (.int (0 : Int32)), .val (.int (0 : Int32)), .val (.int (9 : Int32))] [(.int (9 : Int32))])) _
                refine Goes.via (fun t k => XS.iloadN X0.here hx rfl (hb hby d3_47) rfl k) ?_
                show Goes p e below (s₁.setTop (mkF m 48 #[.val (.ref a1), .val (.int (0 : Int32)), .val (.int (20 : Int32)), .val (.int p4), .val (.int (0 : Int32)), .val (.int (0 : Int32)), .val (.int (0 : Int32)), .val (.int (9 : Int32))] [(.int p4), (.int (9 : Int32))])) _
                by_cases hc48_46 : p4 < (9 : Int32)
                · refine Goes.via (fun t k => XS.icmpNo X0.here hx rfl (hb hby d3_48) rfl (tlt hc48_46).2.2.2 k) ?_
                  show Goes p e below (s₁.setTop (mkF m 51 #[.val (.ref a1), .val (.int (0 : Int32)), .val (.int (20 : Int32)), .val (.int p4), .val (.int (0 : Int32)), .val (.int (0 : Int32)), .val (.int (0 : Int32)), .val (.int (9 : Int32))] [])) _
                  refine Goes.via (fun t k => XS.iload X0.here hx rfl (hb hby d3_51) rfl k) ?_
                  show Goes p e below (s₁.setTop (mkF m 53 #[.val (.ref a1), .val (.int (0 : Int32)), .val (.int (20 : Int32)), .val (.int p4), .val (.int (0 : Int32)), .val (.int (0 : Int32)), .val (.int (0 : Int32)), .val (.int (9 : Int32))] [(.int (0 : Int32))])) _
                  refine Goes.via (fun t k => XS.iconst X0.here hx rfl (hb hby d3_53) k) ?_
                  show Goes p e below (s₁.setTop (mkF m 54 #[.val (.ref a1), .val (.int (0 : Int32)), .val (.int (20 : Int32)), .val (.int p4), .val (.int (0 : Int32)), .val (.int (0 : Int32)), .val (.int (0 : Int32)), .val (.int (9 : Int32))] [(.int (1 : Int32)), (.int (0 : Int32))])) _
                  refine Goes.via (fun t k => XS.isub X0.here hx rfl (hb hby d3_54) rfl k) ?_
                  show Goes p e below (s₁.setTop (mkF m 55 #[.val (.ref a1), .val (.int (0 : Int32)), .val (.int (20 : Int32)), .val (.int p4), .val (.int (0 : Int32)), .val (.int (0 : Int32)), .val (.int (0 : Int32)), .val (.int (9 : Int32))] [(.int (-1 : Int32))])) _
                  refine Goes.via (fun t k => XS.istore X0.here hx rfl (hb hby d3_55) rfl (l' := #[.val (.ref a1), .val (.int (0 : Int32)), .val (.int (20 : Int32)), .val (.int p4), .val (.int (0 : Int32)), .val (.int (-1 : Int32)), .val (.int (0 : Int32)), .val (.int (9 : Int32))]) rfl k) ?_
                  show Goes p e below (s₁.setTop (mkF m 57 #[.val (.ref a1), .val (.int (0 : Int32)), .val (.int (20 : Int32)), .val (.int p4), .val (.int (0 : Int32)), .val (.int (-1 : Int32)), .val (.int (0 : Int32)), .val (.int (9 : Int32))] [])) _
                  refine Goes.via (fun t k => XS.goto X0.here hx rfl (pc0 := 57) (pc' := 63) rfl (hb hby d3_57) (by decide) (by decide) k) ?_
                  show Goes p e below (s₁.setTop (mkF m 63 #[.val (.ref a1), .val (.int (0 : Int32)), .val (.int (20 : Int32)), .val (.int p4), .val (.int (0 : Int32)), .val (.int (-1 : Int32)), .val (.int (0 : Int32)), .val (.int (9 : Int32))] [])) _
                  refine Goes.via (fun t k => XS.goto X0.here hx rfl (pc0 := 63) (pc' := 8) rfl (hb hby d3_63) (by decide) (by decide) k) ?_
                  show Goes p e below (s₁.setTop (mkF m 8 #[.val (.ref a1), .val (.int (0 : Int32)), .val (.int (20 : Int32)), .val (.int p4), .val (.int (0 : Int32)), .val (.int (-1 : Int32)), .val (.int (0 : Int32)), .val (.int (9 : Int32))] [])) _
                  refine Goes.via (fun t k => XS.iload X0.here hx rfl (hb hby d3_8) rfl k) ?_
                  show Goes p e below (s₁.setTop (mkF m 10 #[.val (.ref a1), .val (.int (0 : Int32)), .val (.int (20 : Int32)), .val (.int p4), .val (.int (0 : Int32)), .val (.int (-1 : Int32)), .val (.int (0 : Int32)), .val (.int (9 : Int32))] [(.int (0 : Int32))])) _
                  refine Goes.via (fun t k => XS.iload X0.here hx rfl (hb hby d3_10) rfl k) ?_
                  show Goes p e below (s₁.setTop (mkF m 12 #[.val (.ref a1), .val (.int (0 : Int32)), .val (.int (20 : Int32)), .val (.int p4), .val (.int (0 : Int32)), .val (.int (-1 : Int32)), .val (.int (0 : Int32)), .val (.int (9 : Int32))] [(.int (-1 : Int32)), (.int (0 : Int32))])) _
                  refine Goes.via (fun t k => XS.icmpYes X0.here hx rfl (pc0 := 12) (pc' := 66) rfl (hb hby d3_12) rfl (tlt (show (-1 : Int32) < (0 : Int32) from (by decide))).2.2.1 (by decide) (by decide) k) ?_
                  show Goes p e below (s₁.setTop (mkF m 66 #[.val (.ref a1), .val (.int (0 : Int32)), .val (.int (20 : Int32)), .val (.int p4), .val (.int (0 : Int32)), .val (.int (-1 : Int32)), .val (.int (0 : Int32)), .val (.int (9 : Int32))] [])) _
                  refine Goes.via (fun t k => XS.iload X0.here hx rfl (hb hby d3_66) rfl k) ?_
                  show Goes p e below (s₁.setTop (mkF m 68 #[.val (.ref a1), .val (.int (0 : Int32)), .val (.int (20 : Int32)), .val (.int p4), .val (.int (0 : Int32)), .val (.int (-1 : Int32)), .val (.int (0 : Int32)), .val (.int (9 : Int32))] [(.int (0 : Int32))])) _
                  refine Goes.via (fun t k => XS.iconst X0.here hx rfl (hb hby d3_68) k) ?_
                  show Goes p e below (s₁.setTop (mkF m 69 #[.val (.ref a1), .val (.int (0 : Int32)), .val (.int (20 : Int32)), .val (.int p4), .val (.int (0 : Int32)), .val (.int (-1 : Int32)), .val (.int (0 : Int32)), .val (.int (9 : Int32))] [(.int (1 : Int32)), (.int (0 : Int32))])) _
                  refine Goes.via (fun t k => XS.iadd X0.here hx rfl (hb hby d3_69) rfl k) ?_
                  show Goes p e below (s₁.setTop (mkF m 70 #[.val (.ref a1), .val (.int (0 : Int32)), .val (.int (20 : Int32)), .val (.int p4), .val (.int (0 : Int32)), .val (.int (-1 : Int32)), .val (.int (0 : Int32)), .val (.int (9 : Int32))] [(.int (1 : Int32))])) _
                  refine Goes.via (fun t k => XS.ineg X0.here hx rfl (hb hby d3_70) rfl k) ?_
                  show Goes p e below (s₁.setTop (mkF m 71 #[.val (.ref a1), .val (.int (0 : Int32)), .val (.int (20 : Int32)), .val (.int p4), .val (.int (0 : Int32)), .val (.int (-1 : Int32)), .val (.int (0 : Int32)), .val (.int (9 : Int32))] [(.int (-1 : Int32))])) _
                  obtain ⟨fs, hr, hrun, hended, hW, hsame⟩ := X0.leave (v := some (.int (-1 : Int32))) (fun h => by rw [Bd.returns] at h; cases h)
                  refine ⟨_, _, ?_, hrun, hended, _, _, rfl, ?_, ⟨_, rfl⟩, hW, hsame.mono (by decide) (by decide)⟩
                  · exact retI X0 hx Bd.returns (hb hby d3_71) hr
                  · show Q3 Z a1 p4 h0 n0 _ s₁.heap _
                    rw [e0]
                    exact ⟨congrArg some (congrArg _ (by simp only [f3, if_neg hc33_2, if_pos hc48_25, if_neg hc33_27, if_pos hc48_36, if_neg hc33_38, if_pos hc48_43, if_neg hc33_45, if_pos hc48_46])), N0, rfl⟩
                · refine Goes.via (fun t k => XS.icmpYes X0.here hx rfl (pc0 := 48) (pc' := 60) rfl (hb hby d3_48) rfl (flt hc48_46).2.2.2 (by decide) (by decide) k) ?_
                  show Goes p e below (s₁.setTop (mkF m 60 #[.val (.ref a1), .val (.int (0 : Int32)), .val (.int (20 : Int32)), .val (.int p4), .val (.int (0 : Int32)), .val (.int (0 : Int32)), .val (.int (0 : Int32)), .val (.int (9 : Int32))] [])) _
                  refine Goes.via (fun t k => XS.iload X0.here hx rfl (hb hby d3_60) rfl k) ?_
                  show Goes p e below (s₁.setTop (mkF m 62 #[.val (.ref a1), .val (.int (0 : Int32)), .val (.int (20 : Int32)), .val (.int p4), .val (.int (0 : Int32)), .val (.int (0 : Int32)), .val (.int (0 : Int32)), .val (.int (9 : Int32))] [(.int (0 : Int32))])) _
                  obtain ⟨fs, hr, hrun, hended, hW, hsame⟩ := X0.leave (v := some (.int (0 : Int32))) (fun h => by rw [Bd.returns] at h; cases h)
                  refine ⟨_, _, ?_, hrun, hended, _, _, rfl, ?_, ⟨_, rfl⟩, hW, hsame.mono (by decide) (by decide)⟩
                  · exact retI X0 hx Bd.returns (hb hby d3_62) hr
                  · show Q3 Z a1 p4 h0 n0 _ s₁.heap _
                    rw [e0]
                    exact ⟨congrArg some (congrArg _ (by simp only [f3, if_neg hc33_2, if_pos hc48_25, if_neg hc33_27, if_pos hc48_36, if_neg hc33_38, if_pos hc48_43, if_neg hc33_45, if_neg hc48_46])), N0, rfl⟩
            · refine Goes.via (fun t k => XS.icmpYes X0.here hx rfl (pc0 := 48) (pc' := 60) rfl (hb hby d3_48) rfl (flt hc48_43).2.2.2 (by decide) (by decide) k) ?_
              show Goes p e below (s₁.setTop (mkF m 60 #[.val (.ref a1), .val (.int (0 : Int32)), .val (.int (20 : Int32)), .val (.int p4), .val (.int (0 : Int32)), .val (.int (3 : Int32)), .val (.int (1 : Int32)), .val (.int (13 : Int32))] [])) _
              refine Goes.via (fun t k => XS.iload X0.here hx rfl (hb hby d3_60) rfl k) ?_
              show Goes p e below (s₁.setTop (mkF m 62 #[.val (.ref a1), .val (.int (0 : Int32)), .val (.int (20 : Int32)), .val (.int p4), .val (.int (0 : Int32)), .val (.int (3 : Int32)), .val (.int (1 : Int32)), .val (.int (13 : Int32))] [(.int (1 : Int32))])) _
              obtain ⟨fs, hr, hrun, hended, hW, hsame⟩ := X0.leave (v := some (.int (1 : Int32))) (fun h => by rw [Bd.returns] at h; cases h)
              refine ⟨_, _, ?_, hrun, hended, _, _, rfl, ?_, ⟨_, rfl⟩, hW, hsame.mono (by decide) (by decide)⟩
              · exact retI X0 hx Bd.returns (hb hby d3_62) hr
              · show Q3 Z a1 p4 h0 n0 _ s₁.heap _
                rw [e0]
                exact ⟨congrArg some (congrArg _ (by simp only [f3, if_neg hc33_2, if_pos hc48_25, if_neg hc33_27, if_pos hc48_36, if_neg hc33_38, if_neg hc48_43])), N0, rfl⟩
        · refine Goes.via (fun t k => XS.icmpYes X0.here hx rfl (pc0 := 48) (pc' := 60) rfl (hb hby d3_48) rfl (flt hc48_36).2.2.2 (by decide) (by decide) k) ?_
          show Goes p e below (s₁.setTop (mkF m 60 #[.val (.ref a1), .val (.int (0 : Int32)), .val (.int (20 : Int32)), .val (.int p4), .val (.int (0 : Int32)), .val (.int (8 : Int32)), .val (.int (4 : Int32)), .val (.int (160 : Int32))] [])) _
          refine Goes.via (fun t k => XS.iload X0.here hx rfl (hb hby d3_60) rfl k) ?_
          show Goes p e below (s₁.setTop (mkF m 62 #[.val (.ref a1), .val (.int (0 : Int32)), .val (.int (20 : Int32)), .val (.int p4), .val (.int (0 : Int32)), .val (.int (8 : Int32)), .val (.int (4 : Int32)), .val (.int (160 : Int32))] [(.int (4 : Int32))])) _
          obtain ⟨fs, hr, hrun, hended, hW, hsame⟩ := X0.leave (v := some (.int (4 : Int32))) (fun h => by rw [Bd.returns] at h; cases h)
          refine ⟨_, _, ?_, hrun, hended, _, _, rfl, ?_, ⟨_, rfl⟩, hW, hsame.mono (by decide) (by decide)⟩
          · exact retI X0 hx Bd.returns (hb hby d3_62) hr
          · show Q3 Z a1 p4 h0 n0 _ s₁.heap _
            rw [e0]
            exact ⟨congrArg some (congrArg _ (by simp only [f3, if_neg hc33_2, if_pos hc48_25, if_neg hc33_27, if_neg hc48_36])), N0, rfl⟩
    · refine Goes.via (fun t k => XS.icmpYes X0.here hx rfl (pc0 := 48) (pc' := 60) rfl (hb hby d3_48) rfl (flt hc48_25).2.2.2 (by decide) (by decide) k) ?_
      show Goes p e below (s₁.setTop (mkF m 60 #[.val (.ref a1), .val (.int (0 : Int32)), .val (.int (20 : Int32)), .val (.int p4), .val (.int (0 : Int32)), .val (.int (19 : Int32)), .val (.int (9 : Int32)), .val (.int (8202 : Int32))] [])) _
      refine Goes.via (fun t k => XS.iload X0.here hx rfl (hb hby d3_60) rfl k) ?_
      show Goes p e below (s₁.setTop (mkF m 62 #[.val (.ref a1), .val (.int (0 : Int32)), .val (.int (20 : Int32)), .val (.int p4), .val (.int (0 : Int32)), .val (.int (19 : Int32)), .val (.int (9 : Int32)), .val (.int (8202 : Int32))] [(.int (9 : Int32))])) _
      obtain ⟨fs, hr, hrun, hended, hW, hsame⟩ := X0.leave (v := some (.int (9 : Int32))) (fun h => by rw [Bd.returns] at h; cases h)
      refine ⟨_, _, ?_, hrun, hended, _, _, rfl, ?_, ⟨_, rfl⟩, hW, hsame.mono (by decide) (by decide)⟩
      · exact retI X0 hx Bd.returns (hb hby d3_62) hr
      · show Q3 Z a1 p4 h0 n0 _ s₁.heap _
        rw [e0]
        exact ⟨congrArg some (congrArg _ (by simp only [f3, if_neg hc33_2, if_neg hc48_25])), N0, rfl⟩
theorem d2_0 : decode jdk_65_method_57_code 0 = .ok (.aload_n 0, 1) := by decide +kernel
theorem d2_1 : decode jdk_65_method_57_code 1 = .ok (.iconst 0, 1) := by decide +kernel
theorem d2_2 : decode jdk_65_method_57_code 2 = .ok (.aload_n 0, 1) := by decide +kernel
theorem d2_3 : decode jdk_65_method_57_code 3 = .ok (.arraylength, 1) := by decide +kernel
theorem d2_4 : decode jdk_65_method_57_code 4 = .ok (.iload_n 1, 1) := by decide +kernel
theorem d2_5 : decode jdk_65_method_57_code 5 = .ok (.invokestatic 209, 3) := by decide +kernel
theorem d2_8 : decode jdk_65_method_57_code 8 = .ok (.ireturn, 1) := by decide +kernel
theorem pn_2 : plainName "java/util/Arrays" = true := by first | (simp [plainName, overriddenIn]; done) | decide +kernel
theorem pd_2_0 : parseMethodDescriptor "([IIII)I" = some ⟨[(.array .int), .int, .int, .int], some .int⟩ := by decide +kernel
theorem ef_2 (m : MethodId) (x0 : Addr) (x1 : Int32) : entryFrame m #[(.ref x0), (.int x1)] 2 = mkF m 0 #[.val (.ref x0), .val (.int x1)] [] := by first | (simp [entryFrame, mkF, argsToLocals, Value.category]; done) | rfl
def f2 (a1 : Addr) (p2 : Int32) : Int32 :=
  (f3 a1 p2)
def Q2 (Z : State) (a1 : Addr) (p2 : Int32) (h0 : Heap) (n0 : Nat) (v : Option Value) (h : Heap) (L : List Loc) : Prop := v = some (.int (f2 a1 p2)) ∧ Fr n0 L ∧ h = h0
set_option maxRecDepth 65536 in
set_option maxHeartbeats 40000000 in
theorem rm2 (l : Launch) (Z : State) (a0 : Array Value) (hw : ∀ d ∈ tables_1, d.before a0 Z = true) (ws : List Jvm.Cond) (a1 : Addr) (p2 : Int32) (kR : ClassId) (h0 : Heap) (n0 : Nat) (Z0 : n0 ≤ h0.size) (V1 : Arv Z h0 a1 kR .int (20 : Int32) own_list (.int (0 : Int32))) :
    MetFree l (⟨"java/util/Arrays", "binarySearch", "([II)I"⟩ : MethodName) (head1 (Jvm.Cond.code (⟨"java/util/Arrays", "binarySearch", "([II)I"⟩ : MethodName) jdk_65_method_57_code 2 (some .int) :: ws) ({ frames := 1, cells := 0, slots := 0, locals := 19 } : Room)) (fun a U => a = #[(.ref a1), (.int p2)] ∧ Z.Warmed39 U.vm ∧ U.heap = h0) (fun _ _ _ _ _ => True) (fun _ U o U' => ∃ v L, o = .returned v ∧ Q2 Z a1 p2 h0 n0 v U'.heap L ∧ FrameEnd U o U' L ({ frames := 1, cells := 0, slots := 0, locals := 19 } : Room).cells ({ frames := 1, cells := 0, slots := 0, locals := 19 } : Room).slots) := by
  refine MetFree.of_bodySF (plainFor_of_name pn_2) hisR ?_
  intro p e s m args below meth c s₁ Bd hml0 hP hK
  obtain ⟨rfl, hZ, hh⟩ := hP
  have hx := Bd.exec
  have hby := Bd.bytes
  have hml : c.maxLocals = 2 := hml0
  have hown : s.vm.findClass "java/util/Arrays" = some m.cls := findClass_of_methodNamed Bd.named
  have hnm := (name_of_methodNamed Bd.named Bd.method).1
  have X0 : Stand p l e ({ frames := 1, cells := 0, slots := 0, locals := 19 } : Room) s m #[(.ref a1), (.int p2)] below meth c s₁ [] 0 0 := Stand.of_body Bd
  have e0 : s₁.heap = h0 := by rw [← hh, Bd.state]; rfl
  have N0 := Fr.nil n0
  refine Goes.via (next := s₁.setTop (mkF m 0 #[.val (.ref a1), .val (.int p2)] [])) (fun t k => castTop (ef_2 m a1 p2) k) ?_
  refine Goes.via (fun t k => XS.aloadN X0.here hx rfl (hb hby d2_0) rfl rfl k) ?_
  show Goes p e below (s₁.setTop (mkF m 1 #[.val (.ref a1), .val (.int p2)] [(.ref a1)])) _
  refine Goes.via (fun t k => XS.iconst X0.here hx rfl (hb hby d2_1) k) ?_
  show Goes p e below (s₁.setTop (mkF m 2 #[.val (.ref a1), .val (.int p2)] [(.int (0 : Int32)), (.ref a1)])) _
  refine Goes.via (fun t k => XS.aloadN X0.here hx rfl (hb hby d2_2) rfl rfl k) ?_
  show Goes p e below (s₁.setTop (mkF m 3 #[.val (.ref a1), .val (.int p2)] [(.ref a1), (.int (0 : Int32)), (.ref a1)])) _
  obtain ⟨cl1, Ar1, -, Sa1, Na1, -, -⟩ := id V1
  refine Goes.via (next := s₁.setTop (mkF m 4 #[.val (.ref a1), .val (.int p2)] [(.int (20 : Int32)), (.int (0 : Int32)), (.ref a1)])) (fun t k => X0.arraylength hx (by rw [e0]; exact Ar1.1) (State.isArrayOf_alike hZ.alike Ar1.2.1) (g := (mkF m 3 #[.val (.ref a1), .val (.int p2)] [(.ref a1), (.int (0 : Int32)), (.ref a1)])) rfl rfl (hb hby d2_3) _ (by rw [len_of Sa1 Na1]; exact k)) ?_
  show Goes p e below (s₁.setTop (mkF m 4 #[.val (.ref a1), .val (.int p2)] [(.int (20 : Int32)), (.int (0 : Int32)), (.ref a1)])) _
  refine Goes.via (fun t k => XS.iloadN X0.here hx rfl (hb hby d2_4) rfl k) ?_
  show Goes p e below (s₁.setTop (mkF m 5 #[.val (.ref a1), .val (.int p2)] [(.int p2), (.int (20 : Int32)), (.int (0 : Int32)), (.ref a1)])) _
  obtain ⟨_, _, ⟨T2, L2, k2, n2⟩, -, X2, ⟨Lc2, hQ2, l2, y2, z2⟩, st2⟩ := Jvm.LawKit.callS X0 hx (y := (⟨"java/util/Arrays", "binarySearch0", "([IIII)I"⟩ : MethodName)) hown (mvT hZ (hw _ (List.mem_of_getElem? (i := 13) rfl))) (mvT hZ (hw _ (List.mem_of_getElem? (i := 14) rfl))) (mvT hZ (hw _ (List.mem_of_getElem? (i := 11) rfl))) (mvT hZ (hw _ (List.mem_of_getElem? (i := 15) rfl))) (by decide) (backOf (W := 0) (rm3 l Z a0 hw [] a1 p2 kR h0 n0 Z0 V1) hZ (hw _ (List.mem_of_getElem? (i := 15) rfl)) (hw _ (List.mem_of_getElem? (i := 11) rfl)) (by decide) (by decide)) (g := (mkF m 5 #[.val (.ref a1), .val (.int p2)] [(.int p2), (.int (20 : Int32)), (.int (0 : Int32)), (.ref a1)])) rfl (by rw [hml]; rfl) (argsL := [(.ref a1), (.int (0 : Int32)), (.int (20 : Int32)), (.int p2)]) (rest := []) (lenOf pd_2_0 rfl) rfl (by show 2 * 0 + _ ≤ _; exact Nat.le_of_eq rfl) (hb hby d2_5) (fun _ _ => ⟨rfl, e0, (by decide : 0 + 0 ≤ _), (by decide : 0 + 0 ≤ _)⟩)
  dsimp only [Pt.U, Pt.locs, Pt.cells, Pt.slots] at X2 l2 y2 z2 st2 hQ2
  subst l2 y2 z2
  obtain ⟨rfl, N2q, er2⟩ := hQ2
  have e2 : T2.heap = h0 := er2
  have N2 := Fr.app N0 N2q
  refine Goes.via st2 ?_
  show Goes p e below (T2.setTop (mkF m 8 #[.val (.ref a1), .val (.int p2)] [(.int (f3 a1 p2))])) _
  obtain ⟨fs, hr, hrun, hended, hW, hsame⟩ := X2.leave (v := some (.int (f3 a1 p2))) (fun h => by rw [Bd.returns] at h; cases h)
  refine ⟨_, _, ?_, hrun, hended, _, _, rfl, ?_, ⟨_, rfl⟩, hW, hsame.mono (by decide) (by decide)⟩
  · exact retI X2 hx Bd.returns (hb hby d2_8) hr
  · show Q2 Z a1 p2 h0 n0 _ T2.heap _
    rw [e2]
    exact ⟨congrArg some (congrArg _ rfl), N2, rfl⟩
theorem d1_0 : decode prog_44_method_2_code 0 = .ok (.getstatic 7, 3) := by decide +kernel
theorem d1_3 : decode prog_44_method_2_code 3 = .ok (.iload_n 0, 1) := by decide +kernel
theorem d1_4 : decode prog_44_method_2_code 4 = .ok (.invokestatic 13, 3) := by decide +kernel
theorem d1_7 : decode prog_44_method_2_code 7 = .ok (.istore_n 1, 1) := by decide +kernel
theorem d1_8 : decode prog_44_method_2_code 8 = .ok (.iload_n 1, 1) := by decide +kernel
theorem d1_9 : decode prog_44_method_2_code 9 = .ok (.ifCond .ge 13, 3) := by decide +kernel
theorem d1_12 : decode prog_44_method_2_code 12 = .ok (.iload_n 1, 1) := by decide +kernel
theorem d1_13 : decode prog_44_method_2_code 13 = .ok (.ineg, 1) := by decide +kernel
theorem d1_14 : decode prog_44_method_2_code 14 = .ok (.iconst 1, 1) := by decide +kernel
theorem d1_15 : decode prog_44_method_2_code 15 = .ok (.isub, 1) := by decide +kernel
theorem d1_16 : decode prog_44_method_2_code 16 = .ok (.iconst 2, 1) := by decide +kernel
theorem d1_17 : decode prog_44_method_2_code 17 = .ok (.irem, 1) := by decide +kernel
theorem d1_18 : decode prog_44_method_2_code 18 = .ok (.iconst 1, 1) := by decide +kernel
theorem d1_19 : decode prog_44_method_2_code 19 = .ok (.if_icmp .ne 7, 3) := by decide +kernel
theorem d1_22 : decode prog_44_method_2_code 22 = .ok (.iconst 1, 1) := by decide +kernel
theorem d1_23 : decode prog_44_method_2_code 23 = .ok (.goto 4, 3) := by decide +kernel
theorem d1_26 : decode prog_44_method_2_code 26 = .ok (.iconst 0, 1) := by decide +kernel
theorem d1_27 : decode prog_44_method_2_code 27 = .ok (.ireturn, 1) := by decide +kernel
theorem pn_1 : plainName "com/example/beforehand/beforehand/WhiteSpace" = true := by first | (simp [plainName, overriddenIn]; done) | decide +kernel
theorem pd_1_0 : parseMethodDescriptor "([II)I" = some ⟨[(.array .int), .int], some .int⟩ := by decide +kernel
theorem ef_1 (m : MethodId) (x0 : Int32) : entryFrame m #[(.int x0)] 2 = mkF m 0 #[.val (.int x0), .unset] [] := by first | (simp [entryFrame, mkF, argsToLocals, Value.category]; done) | rfl
def v1_27_0 (p1 : Int32) (r1 : Addr) : Int32 := (if (((-(f2 r1 p1)) - (1 : Int32)) % (2 : Int32)) = (1 : Int32) then (1 : Int32) else (0 : Int32))
def f1 (p1 : Int32) (r1 : Addr) : Int32 :=
  if (f2 r1 p1) < (0 : Int32) then (nar .boolean (v1_27_0 p1 r1)) else
  (1 : Int32)
def Q1 (Z : State) (p1 : Int32) (r1 : Addr) (h0 : Heap) (n0 : Nat) (v : Option Value) (h : Heap) (L : List Loc) : Prop := v = some (.int (f1 p1 r1)) ∧ Fr n0 L ∧ h = h0
set_option maxRecDepth 65536 in
set_option maxHeartbeats 40000000 in
theorem rm1 (l : Launch) (Z : State) (a0 : Array Value) (hw : ∀ d ∈ tables_1, d.before a0 Z = true) (ws : List Jvm.Cond) (p1 : Int32) (r1 : Addr) (kR : ClassId) (h0 : Heap) (n0 : Nat) (Z0 : n0 ≤ h0.size) (S1 : Sta Z h0 "com/example/beforehand/beforehand/WhiteSpace" "RANGES" "[I" (.ref r1)) (V1 : Arv Z h0 r1 kR .int (20 : Int32) own_list (.int (0 : Int32))) :
    MetFree l (⟨"com/example/beforehand/beforehand/WhiteSpace", "contains", "(C)Z"⟩ : MethodName) (head1 (Jvm.Cond.code (⟨"com/example/beforehand/beforehand/WhiteSpace", "contains", "(C)Z"⟩ : MethodName) prog_44_method_2_code 2 (some .boolean) :: ws) ({ frames := 2, cells := 0, slots := 0, locals := 32 } : Room)) (fun a U => a = #[(.int p1)] ∧ Z.Warmed39 U.vm ∧ U.heap = h0) (fun _ _ _ _ _ => True) (fun _ U o U' => ∃ v L, o = .returned v ∧ Q1 Z p1 r1 h0 n0 v U'.heap L ∧ FrameEnd U o U' L ({ frames := 2, cells := 0, slots := 0, locals := 32 } : Room).cells ({ frames := 2, cells := 0, slots := 0, locals := 32 } : Room).slots) := by
  refine MetFree.of_bodySF (plainFor_of_name pn_1) hisR ?_
  intro p e s m args below meth c s₁ Bd hml0 hP hK
  obtain ⟨rfl, hZ, hh⟩ := hP
  have hx := Bd.exec
  have hby := Bd.bytes
  have hml : c.maxLocals = 2 := hml0
  have hown : s.vm.findClass "com/example/beforehand/beforehand/WhiteSpace" = some m.cls := findClass_of_methodNamed Bd.named
  have hnm := (name_of_methodNamed Bd.named Bd.method).1
  have X0 : Stand p l e ({ frames := 2, cells := 0, slots := 0, locals := 32 } : Room) s m #[(.int p1)] below meth c s₁ [] 0 0 := Stand.of_body Bd
  have e0 : s₁.heap = h0 := by rw [← hh, Bd.state]; rfl
  have N0 := Fr.nil n0
  refine Goes.via (next := s₁.setTop (mkF m 0 #[.val (.int p1), .unset] [])) (fun t k => castTop (ef_1 m p1) k) ?_
  obtain ⟨T1, X1, e1, st1⟩ := getS2 X0 hx hZ hown (host := "") (Or.inl (hw _ (List.mem_of_getElem? (i := 7) rfl))) Via.refl e0 S1 (g := (mkF m 0 #[.val (.int p1), .unset] [])) rfl (hb hby d1_0)
  refine Goes.via st1 ?_
  show Goes p e below (T1.setTop (mkF m 3 #[.val (.int p1), .unset] [(.ref r1)])) _
  refine Goes.via (fun t k => XS.iloadN X1.here hx rfl (hb hby d1_3) rfl k) ?_
  show Goes p e below (T1.setTop (mkF m 4 #[.val (.int p1), .unset] [(.int p1), (.ref r1)])) _
  obtain ⟨_, _, ⟨T2, L2, k2, n2⟩, -, X2, ⟨Lc2, hQ2, l2, y2, z2⟩, st2⟩ := Jvm.LawKit.callS X1 hx (y := (⟨"java/util/Arrays", "binarySearch", "([II)I"⟩ : MethodName)) hown (mvT hZ (hw _ (List.mem_of_getElem? (i := 9) rfl))) (mvT hZ (hw _ (List.mem_of_getElem? (i := 10) rfl))) (mvT hZ (hw _ (List.mem_of_getElem? (i := 11) rfl))) (mvT hZ (hw _ (List.mem_of_getElem? (i := 12) rfl))) (by decide) (backOf (W := 0) (rm2 l Z a0 hw [] r1 p1 kR h0 n0 Z0 V1) hZ (hw _ (List.mem_of_getElem? (i := 12) rfl)) (hw _ (List.mem_of_getElem? (i := 11) rfl)) (by decide) (by decide)) (g := (mkF m 4 #[.val (.int p1), .unset] [(.int p1), (.ref r1)])) rfl (by rw [hml]; rfl) (argsL := [(.ref r1), (.int p1)]) (rest := []) (lenOf pd_1_0 rfl) rfl (by show 2 * 0 + _ ≤ _; exact Nat.le_of_eq rfl) (hb hby d1_4) (fun _ _ => ⟨rfl, e1, (by decide : 0 + 0 ≤ _), (by decide : 0 + 0 ≤ _)⟩)
  dsimp only [Pt.U, Pt.locs, Pt.cells, Pt.slots] at X2 l2 y2 z2 st2 hQ2
  subst l2 y2 z2
  obtain ⟨rfl, N2q, er2⟩ := hQ2
  have e2 : T2.heap = h0 := er2
  have N2 := Fr.app N0 N2q
  refine Goes.via st2 ?_
  show Goes p e below (T2.setTop (mkF m 7 #[.val (.int p1), .unset] [(.int (f2 r1 p1))])) _
  refine Goes.via (fun t k => XS.istoreN X2.here hx rfl (hb hby d1_7) rfl (l' := #[.val (.int p1), .val (.int (f2 r1 p1))]) rfl k) ?_
  show Goes p e below (T2.setTop (mkF m 8 #[.val (.int p1), .val (.int (f2 r1 p1))] [])) _
  refine Goes.via (fun t k => XS.iloadN X2.here hx rfl (hb hby d1_8) rfl k) ?_
  show Goes p e below (T2.setTop (mkF m 9 #[.val (.int p1), .val (.int (f2 r1 p1))] [(.int (f2 r1 p1))])) _
  by_cases hc9_3 : (f2 r1 p1) < (0 : Int32)
  · refine Goes.via (fun t k => XS.ifNo X2.here hx rfl (hb hby d1_9) rfl ((if0 _ _).trans (tlt hc9_3).2.1) k) ?_
    show Goes p e below (T2.setTop (mkF m 12 #[.val (.int p1), .val (.int (f2 r1 p1))] [])) _
    refine Goes.via (fun t k => XS.iloadN X2.here hx rfl (hb hby d1_12) rfl k) ?_
    show Goes p e below (T2.setTop (mkF m 13 #[.val (.int p1), .val (.int (f2 r1 p1))] [(.int (f2 r1 p1))])) _
    refine Goes.via (fun t k => XS.ineg X2.here hx rfl (hb hby d1_13) rfl k) ?_
    show Goes p e below (T2.setTop (mkF m 14 #[.val (.int p1), .val (.int (f2 r1 p1))] [(.int (-(f2 r1 p1)))])) _
    refine Goes.via (fun t k => XS.iconst X2.here hx rfl (hb hby d1_14) k) ?_
    show Goes p e below (T2.setTop (mkF m 15 #[.val (.int p1), .val (.int (f2 r1 p1))] [(.int (1 : Int32)), (.int (-(f2 r1 p1)))])) _
    refine Goes.via (fun t k => XS.isub X2.here hx rfl (hb hby d1_15) rfl k) ?_
    show Goes p e below (T2.setTop (mkF m 16 #[.val (.int p1), .val (.int (f2 r1 p1))] [(.int ((-(f2 r1 p1)) - (1 : Int32)))])) _
    refine Goes.via (fun t k => XS.iconst X2.here hx rfl (hb hby d1_16) k) ?_
    show Goes p e below (T2.setTop (mkF m 17 #[.val (.int p1), .val (.int (f2 r1 p1))] [(.int (2 : Int32)), (.int ((-(f2 r1 p1)) - (1 : Int32)))])) _
    refine Goes.via (fun t k => iremM X2 hx rfl (hb hby d1_17) rfl (by decide) k) ?_
    show Goes p e below (T2.setTop (mkF m 18 #[.val (.int p1), .val (.int (f2 r1 p1))] [(.int (((-(f2 r1 p1)) - (1 : Int32)) % (2 : Int32)))])) _
    refine Goes.via (fun t k => XS.iconst X2.here hx rfl (hb hby d1_18) k) ?_
    show Goes p e below (T2.setTop (mkF m 19 #[.val (.int p1), .val (.int (f2 r1 p1))] [(.int (1 : Int32)), (.int (((-(f2 r1 p1)) - (1 : Int32)) % (2 : Int32)))])) _
    refine Goes.via (next := T2.setTop (mkF m 27 #[.val (.int p1), .val (.int (f2 r1 p1))] [(.int (v1_27_0 p1 r1))])) (fun t k => ?_) ?_
    · by_cases hc19_4 : (((-(f2 r1 p1)) - (1 : Int32)) % (2 : Int32)) = (1 : Int32)
      · refine XS.icmpNo X2.here hx rfl (hb hby d1_19) rfl (teq hc19_4).2 ?_
        show Steps p.tables e below (T2.setTop (mkF m 22 #[.val (.int p1), .val (.int (f2 r1 p1))] [])) _
        refine XS.iconst X2.here hx rfl (hb hby d1_22) ?_
        show Steps p.tables e below (T2.setTop (mkF m 23 #[.val (.int p1), .val (.int (f2 r1 p1))] [(.int (1 : Int32))])) _
        refine XS.goto X2.here hx rfl (pc0 := 23) (pc' := 27) rfl (hb hby d1_23) (by decide) (by decide) ?_
        show Steps p.tables e below (T2.setTop (mkF m 27 #[.val (.int p1), .val (.int (f2 r1 p1))] [(.int (1 : Int32))])) _
        simpa only [v1_27_0, if_pos hc19_4] using k
      · refine XS.icmpYes X2.here hx rfl (pc0 := 19) (pc' := 26) rfl (hb hby d1_19) rfl (feq hc19_4).2 (by decide) (by decide) ?_
        show Steps p.tables e below (T2.setTop (mkF m 26 #[.val (.int p1), .val (.int (f2 r1 p1))] [])) _
        refine XS.iconst X2.here hx rfl (hb hby d1_26) ?_
        show Steps p.tables e below (T2.setTop (mkF m 27 #[.val (.int p1), .val (.int (f2 r1 p1))] [(.int (0 : Int32))])) _
        simpa only [v1_27_0, if_neg hc19_4] using k
    show Goes p e below (T2.setTop (mkF m 27 #[.val (.int p1), .val (.int (f2 r1 p1))] [(.int (v1_27_0 p1 r1))])) _
    obtain ⟨fs, hr, hrun, hended, hW, hsame⟩ := X2.leave (v := some (.int (nar .boolean (v1_27_0 p1 r1)))) (fun h => by rw [Bd.returns] at h; cases h)
    refine ⟨_, _, ?_, hrun, hended, _, _, rfl, ?_, ⟨_, rfl⟩, hW, hsame.mono (by decide) (by decide)⟩
    · exact retN X2 hx (t := .boolean) Bd.returns (by simp) (hb hby d1_27) hr
    · show Q1 Z p1 r1 h0 n0 _ T2.heap _
      rw [e2]
      exact ⟨congrArg some (congrArg _ (by simp only [f1, if_pos hc9_3])), N2, rfl⟩
  · refine Goes.via (fun t k => XS.ifYes X2.here hx rfl (pc0 := 9) (pc' := 22) rfl (hb hby d1_9) rfl ((if0 _ _).trans (flt hc9_3).2.1) (by decide) (by decide) k) ?_
    show Goes p e below (T2.setTop (mkF m 22 #[.val (.int p1), .val (.int (f2 r1 p1))] [])) _
    refine Goes.via (fun t k => XS.iconst X2.here hx rfl (hb hby d1_22) k) ?_
    show Goes p e below (T2.setTop (mkF m 23 #[.val (.int p1), .val (.int (f2 r1 p1))] [(.int (1 : Int32))])) _
    refine Goes.via (fun t k => XS.goto X2.here hx rfl (pc0 := 23) (pc' := 27) rfl (hb hby d1_23) (by decide) (by decide) k) ?_
    show Goes p e below (T2.setTop (mkF m 27 #[.val (.int p1), .val (.int (f2 r1 p1))] [(.int (1 : Int32))])) _
    obtain ⟨fs, hr, hrun, hended, hW, hsame⟩ := X2.leave (v := some (.int (1 : Int32))) (fun h => by rw [Bd.returns] at h; cases h)
    refine ⟨_, _, ?_, hrun, hended, _, _, rfl, ?_, ⟨_, rfl⟩, hW, hsame.mono (by decide) (by decide)⟩
    · exact retN X2 hx (t := .boolean) Bd.returns (by simp) (hb hby d1_27) hr
    · show Q1 Z p1 r1 h0 n0 _ T2.heap _
      rw [e2]
      exact ⟨congrArg some (congrArg _ (by simp only [f1, if_neg hc9_3])), N2, rfl⟩
theorem d4_0 : decode method_2_code 0 = .ok (.iload_n 0, 1) := by decide +kernel
theorem d4_1 : decode method_2_code 1 = .ok (.bipush 9, 2) := by decide +kernel
theorem d4_3 : decode method_2_code 3 = .ok (.if_icmp .lt 11, 3) := by decide +kernel
theorem d4_6 : decode method_2_code 6 = .ok (.iload_n 0, 1) := by decide +kernel
theorem d4_7 : decode method_2_code 7 = .ok (.bipush 13, 2) := by decide +kernel
theorem d4_9 : decode method_2_code 9 = .ok (.if_icmp .gt 5, 3) := by decide +kernel
theorem d4_12 : decode method_2_code 12 = .ok (.iconst 1, 1) := by decide +kernel
theorem d4_13 : decode method_2_code 13 = .ok (.ireturn, 1) := by decide +kernel
theorem d4_14 : decode method_2_code 14 = .ok (.iload_n 0, 1) := by decide +kernel
theorem d4_15 : decode method_2_code 15 = .ok (.bipush 32, 2) := by decide +kernel
theorem d4_17 : decode method_2_code 17 = .ok (.if_icmp .eq 17, 3) := by decide +kernel
theorem d4_20 : decode method_2_code 20 = .ok (.iload_n 0, 1) := by decide +kernel
theorem d4_21 : decode method_2_code 21 = .ok (.sipush 160, 3) := by decide +kernel
theorem d4_24 : decode method_2_code 24 = .ok (.if_icmp .eq 10, 3) := by decide +kernel
theorem d4_27 : decode method_2_code 27 = .ok (.iload_n 0, 1) := by decide +kernel
theorem d4_28 : decode method_2_code 28 = .ok (.sipush 5760, 3) := by decide +kernel
theorem d4_31 : decode method_2_code 31 = .ok (.if_icmp .ne 5, 3) := by decide +kernel
theorem d4_34 : decode method_2_code 34 = .ok (.iconst 1, 1) := by decide +kernel
theorem d4_35 : decode method_2_code 35 = .ok (.ireturn, 1) := by decide +kernel
theorem d4_36 : decode method_2_code 36 = .ok (.iload_n 0, 1) := by decide +kernel
theorem d4_37 : decode method_2_code 37 = .ok (.sipush 8192, 3) := by decide +kernel
theorem d4_40 : decode method_2_code 40 = .ok (.if_icmp .lt 12, 3) := by decide +kernel
theorem d4_43 : decode method_2_code 43 = .ok (.iload_n 0, 1) := by decide +kernel
theorem d4_44 : decode method_2_code 44 = .ok (.sipush 8202, 3) := by decide +kernel
theorem d4_47 : decode method_2_code 47 = .ok (.if_icmp .gt 5, 3) := by decide +kernel
theorem d4_50 : decode method_2_code 50 = .ok (.iconst 1, 1) := by decide +kernel
theorem d4_51 : decode method_2_code 51 = .ok (.ireturn, 1) := by decide +kernel
theorem d4_52 : decode method_2_code 52 = .ok (.iload_n 0, 1) := by decide +kernel
theorem d4_53 : decode method_2_code 53 = .ok (.sipush 8232, 3) := by decide +kernel
theorem d4_56 : decode method_2_code 56 = .ok (.if_icmp .eq 37, 3) := by decide +kernel
theorem d4_59 : decode method_2_code 59 = .ok (.iload_n 0, 1) := by decide +kernel
theorem d4_60 : decode method_2_code 60 = .ok (.sipush 8233, 3) := by decide +kernel
theorem d4_63 : decode method_2_code 63 = .ok (.if_icmp .eq 30, 3) := by decide +kernel
theorem d4_66 : decode method_2_code 66 = .ok (.iload_n 0, 1) := by decide +kernel
theorem d4_67 : decode method_2_code 67 = .ok (.sipush 8239, 3) := by decide +kernel
theorem d4_70 : decode method_2_code 70 = .ok (.if_icmp .eq 23, 3) := by decide +kernel
theorem d4_73 : decode method_2_code 73 = .ok (.iload_n 0, 1) := by decide +kernel
theorem d4_74 : decode method_2_code 74 = .ok (.sipush 8287, 3) := by decide +kernel
theorem d4_77 : decode method_2_code 77 = .ok (.if_icmp .eq 16, 3) := by decide +kernel
theorem d4_80 : decode method_2_code 80 = .ok (.iload_n 0, 1) := by decide +kernel
theorem d4_81 : decode method_2_code 81 = .ok (.sipush 12288, 3) := by decide +kernel
theorem d4_84 : decode method_2_code 84 = .ok (.if_icmp .eq 9, 3) := by decide +kernel
theorem d4_87 : decode method_2_code 87 = .ok (.iload_n 0, 1) := by decide +kernel
theorem d4_88 : decode method_2_code 88 = .ok (.ldc 7, 2) := by decide +kernel
theorem d4_90 : decode method_2_code 90 = .ok (.if_icmp .ne 5, 3) := by decide +kernel
theorem d4_93 : decode method_2_code 93 = .ok (.iconst 1, 1) := by decide +kernel
theorem d4_94 : decode method_2_code 94 = .ok (.ireturn, 1) := by decide +kernel
theorem d4_95 : decode method_2_code 95 = .ok (.iconst 0, 1) := by decide +kernel
theorem d4_96 : decode method_2_code 96 = .ok (.ireturn, 1) := by decide +kernel
theorem pn_4 : plainName "com/example/beforehand/beforehand/WhiteSpaceContainsPinLaw" = true := by first | (simp [plainName, overriddenIn]; done) | decide +kernel
theorem ef_4 (m : MethodId) (x0 : Int32) : entryFrame m #[(.int x0)] 1 = mkF m 0 #[.val (.int x0)] [] := by first | (simp [entryFrame, mkF, argsToLocals, Value.category]; done) | rfl
def f4 (p1 : Int32) : Int32 :=
  if p1 < (9 : Int32) then (if p1 = (32 : Int32) then (1 : Int32) else
  if p1 = (160 : Int32) then (1 : Int32) else
  if p1 = (5760 : Int32) then (1 : Int32) else
  if p1 < (8192 : Int32) then (if p1 = (8232 : Int32) then (1 : Int32) else
  if p1 = (8233 : Int32) then (1 : Int32) else
  if p1 = (8239 : Int32) then (1 : Int32) else
  if p1 = (8287 : Int32) then (1 : Int32) else
  if p1 = (12288 : Int32) then (1 : Int32) else
  if p1 = (65279 : Int32) then (1 : Int32) else
  (0 : Int32)) else
  if (8202 : Int32) < p1 then (if p1 = (8232 : Int32) then (1 : Int32) else
  if p1 = (8233 : Int32) then (1 : Int32) else
  if p1 = (8239 : Int32) then (1 : Int32) else
  if p1 = (8287 : Int32) then (1 : Int32) else
  if p1 = (12288 : Int32) then (1 : Int32) else
  if p1 = (65279 : Int32) then (1 : Int32) else
  (0 : Int32)) else
  (1 : Int32)) else
  if (13 : Int32) < p1 then (if p1 = (32 : Int32) then (1 : Int32) else
  if p1 = (160 : Int32) then (1 : Int32) else
  if p1 = (5760 : Int32) then (1 : Int32) else
  if p1 < (8192 : Int32) then (if p1 = (8232 : Int32) then (1 : Int32) else
  if p1 = (8233 : Int32) then (1 : Int32) else
  if p1 = (8239 : Int32) then (1 : Int32) else
  if p1 = (8287 : Int32) then (1 : Int32) else
  if p1 = (12288 : Int32) then (1 : Int32) else
  if p1 = (65279 : Int32) then (1 : Int32) else
  (0 : Int32)) else
  if (8202 : Int32) < p1 then (if p1 = (8232 : Int32) then (1 : Int32) else
  if p1 = (8233 : Int32) then (1 : Int32) else
  if p1 = (8239 : Int32) then (1 : Int32) else
  if p1 = (8287 : Int32) then (1 : Int32) else
  if p1 = (12288 : Int32) then (1 : Int32) else
  if p1 = (65279 : Int32) then (1 : Int32) else
  (0 : Int32)) else
  (1 : Int32)) else
  (1 : Int32)
def Q4 (Z : State) (p1 : Int32) (h0 : Heap) (n0 : Nat) (v : Option Value) (h : Heap) (L : List Loc) : Prop := v = some (.int (f4 p1)) ∧ Fr n0 L ∧ h = h0
set_option maxRecDepth 65536 in
set_option maxHeartbeats 40000000 in
theorem rm4 (l : Launch) (Z : State) (a0 : Array Value) (hw : ∀ d ∈ tables_1, d.before a0 Z = true) (ws : List Jvm.Cond) (p1 : Int32) (h0 : Heap) (n0 : Nat) (Z0 : n0 ≤ h0.size) :
    MetFree l (⟨"com/example/beforehand/beforehand/WhiteSpaceContainsPinLaw", "ref", "(I)Z"⟩ : MethodName) (head1 (Jvm.Cond.code (⟨"com/example/beforehand/beforehand/WhiteSpaceContainsPinLaw", "ref", "(I)Z"⟩ : MethodName) method_2_code 1 (some .boolean) :: ws) ({ frames := 0, cells := 0, slots := 0, locals := 0 } : Room)) (fun a U => a = #[(.int p1)] ∧ Z.Warmed39 U.vm ∧ U.heap = h0) (fun _ _ _ _ _ => True) (fun _ U o U' => ∃ v L, o = .returned v ∧ Q4 Z p1 h0 n0 v U'.heap L ∧ FrameEnd U o U' L ({ frames := 0, cells := 0, slots := 0, locals := 0 } : Room).cells ({ frames := 0, cells := 0, slots := 0, locals := 0 } : Room).slots) := by
  refine MetFree.of_bodySF (plainFor_of_name pn_4) hisR ?_
  intro p e s m args below meth c s₁ Bd hml0 hP hK
  obtain ⟨rfl, hZ, hh⟩ := hP
  have hx := Bd.exec
  have hby := Bd.bytes
  have hml : c.maxLocals = 1 := hml0
  have hown : s.vm.findClass "com/example/beforehand/beforehand/WhiteSpaceContainsPinLaw" = some m.cls := findClass_of_methodNamed Bd.named
  have hnm := (name_of_methodNamed Bd.named Bd.method).1
  have X0 : Stand p l e ({ frames := 0, cells := 0, slots := 0, locals := 0 } : Room) s m #[(.int p1)] below meth c s₁ [] 0 0 := Stand.of_body Bd
  have e0 : s₁.heap = h0 := by rw [← hh, Bd.state]; rfl
  have N0 := Fr.nil n0
  refine Goes.via (next := s₁.setTop (mkF m 0 #[.val (.int p1)] [])) (fun t k => castTop (ef_4 m p1) k) ?_
  refine Goes.via (fun t k => XS.iloadN X0.here hx rfl (hb hby d4_0) rfl k) ?_
  show Goes p e below (s₁.setTop (mkF m 1 #[.val (.int p1)] [(.int p1)])) _
  refine Goes.via (fun t k => XS.bipush X0.here hx rfl (hb hby d4_1) k) ?_
  show Goes p e below (s₁.setTop (mkF m 3 #[.val (.int p1)] [(.int (9 : Int32)), (.int p1)])) _
  by_cases hc3_1 : p1 < (9 : Int32)
  · refine Goes.via (fun t k => XS.icmpYes X0.here hx rfl (pc0 := 3) (pc' := 14) rfl (hb hby d4_3) rfl (tlt hc3_1).1 (by decide) (by decide) k) ?_
    show Goes p e below (s₁.setTop (mkF m 14 #[.val (.int p1)] [])) _
    refine Goes.via (fun t k => XS.iloadN X0.here hx rfl (hb hby d4_14) rfl k) ?_
    show Goes p e below (s₁.setTop (mkF m 15 #[.val (.int p1)] [(.int p1)])) _
    refine Goes.via (fun t k => XS.bipush X0.here hx rfl (hb hby d4_15) k) ?_
    show Goes p e below (s₁.setTop (mkF m 17 #[.val (.int p1)] [(.int (32 : Int32)), (.int p1)])) _
    by_cases hc17_2 : p1 = (32 : Int32)
    · refine Goes.via (fun t k => XS.icmpYes X0.here hx rfl (pc0 := 17) (pc' := 34) rfl (hb hby d4_17) rfl (teq hc17_2).1 (by decide) (by decide) k) ?_
      show Goes p e below (s₁.setTop (mkF m 34 #[.val (.int p1)] [])) _
      refine Goes.via (fun t k => XS.iconst X0.here hx rfl (hb hby d4_34) k) ?_
      show Goes p e below (s₁.setTop (mkF m 35 #[.val (.int p1)] [(.int (1 : Int32))])) _
      obtain ⟨fs, hr, hrun, hended, hW, hsame⟩ := X0.leave (v := some (.int (1 : Int32))) (fun h => by rw [Bd.returns] at h; cases h)
      refine ⟨_, _, ?_, hrun, hended, _, _, rfl, ?_, ⟨_, rfl⟩, hW, hsame.mono (by decide) (by decide)⟩
      · exact retN X0 hx (t := .boolean) Bd.returns (by simp) (hb hby d4_35) hr
      · show Q4 Z p1 h0 n0 _ s₁.heap _
        rw [e0]
        exact ⟨congrArg some (congrArg _ (by simp only [f4, if_pos hc3_1, if_pos hc17_2])), N0, rfl⟩
    · refine Goes.via (fun t k => XS.icmpNo X0.here hx rfl (hb hby d4_17) rfl (feq hc17_2).1 k) ?_
      show Goes p e below (s₁.setTop (mkF m 20 #[.val (.int p1)] [])) _
      refine Goes.via (fun t k => XS.iloadN X0.here hx rfl (hb hby d4_20) rfl k) ?_
      show Goes p e below (s₁.setTop (mkF m 21 #[.val (.int p1)] [(.int p1)])) _
      refine Goes.via (fun t k => XS.sipush X0.here hx rfl (hb hby d4_21) k) ?_
      show Goes p e below (s₁.setTop (mkF m 24 #[.val (.int p1)] [(.int (160 : Int32)), (.int p1)])) _
      by_cases hc24_3 : p1 = (160 : Int32)
      · refine Goes.via (fun t k => XS.icmpYes X0.here hx rfl (pc0 := 24) (pc' := 34) rfl (hb hby d4_24) rfl (teq hc24_3).1 (by decide) (by decide) k) ?_
        show Goes p e below (s₁.setTop (mkF m 34 #[.val (.int p1)] [])) _
        refine Goes.via (fun t k => XS.iconst X0.here hx rfl (hb hby d4_34) k) ?_
        show Goes p e below (s₁.setTop (mkF m 35 #[.val (.int p1)] [(.int (1 : Int32))])) _
        obtain ⟨fs, hr, hrun, hended, hW, hsame⟩ := X0.leave (v := some (.int (1 : Int32))) (fun h => by rw [Bd.returns] at h; cases h)
        refine ⟨_, _, ?_, hrun, hended, _, _, rfl, ?_, ⟨_, rfl⟩, hW, hsame.mono (by decide) (by decide)⟩
        · exact retN X0 hx (t := .boolean) Bd.returns (by simp) (hb hby d4_35) hr
        · show Q4 Z p1 h0 n0 _ s₁.heap _
          rw [e0]
          exact ⟨congrArg some (congrArg _ (by simp only [f4, if_pos hc3_1, if_neg hc17_2, if_pos hc24_3])), N0, rfl⟩
      · refine Goes.via (fun t k => XS.icmpNo X0.here hx rfl (hb hby d4_24) rfl (feq hc24_3).1 k) ?_
        show Goes p e below (s₁.setTop (mkF m 27 #[.val (.int p1)] [])) _
        refine Goes.via (fun t k => XS.iloadN X0.here hx rfl (hb hby d4_27) rfl k) ?_
        show Goes p e below (s₁.setTop (mkF m 28 #[.val (.int p1)] [(.int p1)])) _
        refine Goes.via (fun t k => XS.sipush X0.here hx rfl (hb hby d4_28) k) ?_
        show Goes p e below (s₁.setTop (mkF m 31 #[.val (.int p1)] [(.int (5760 : Int32)), (.int p1)])) _
        by_cases hc31_4 : p1 = (5760 : Int32)
        · refine Goes.via (fun t k => XS.icmpNo X0.here hx rfl (hb hby d4_31) rfl (teq hc31_4).2 k) ?_
          show Goes p e below (s₁.setTop (mkF m 34 #[.val (.int p1)] [])) _
          refine Goes.via (fun t k => XS.iconst X0.here hx rfl (hb hby d4_34) k) ?_
          show Goes p e below (s₁.setTop (mkF m 35 #[.val (.int p1)] [(.int (1 : Int32))])) _
          obtain ⟨fs, hr, hrun, hended, hW, hsame⟩ := X0.leave (v := some (.int (1 : Int32))) (fun h => by rw [Bd.returns] at h; cases h)
          refine ⟨_, _, ?_, hrun, hended, _, _, rfl, ?_, ⟨_, rfl⟩, hW, hsame.mono (by decide) (by decide)⟩
          · exact retN X0 hx (t := .boolean) Bd.returns (by simp) (hb hby d4_35) hr
          · show Q4 Z p1 h0 n0 _ s₁.heap _
            rw [e0]
            exact ⟨congrArg some (congrArg _ (by simp only [f4, if_pos hc3_1, if_neg hc17_2, if_neg hc24_3, if_pos hc31_4])), N0, rfl⟩
        · refine Goes.via (fun t k => XS.icmpYes X0.here hx rfl (pc0 := 31) (pc' := 36) rfl (hb hby d4_31) rfl (feq hc31_4).2 (by decide) (by decide) k) ?_
          show Goes p e below (s₁.setTop (mkF m 36 #[.val (.int p1)] [])) _
          refine Goes.via (fun t k => XS.iloadN X0.here hx rfl (hb hby d4_36) rfl k) ?_
          show Goes p e below (s₁.setTop (mkF m 37 #[.val (.int p1)] [(.int p1)])) _
          refine Goes.via (fun t k => XS.sipush X0.here hx rfl (hb hby d4_37) k) ?_
          show Goes p e below (s₁.setTop (mkF m 40 #[.val (.int p1)] [(.int (8192 : Int32)), (.int p1)])) _
          by_cases hc40_5 : p1 < (8192 : Int32)
          · refine Goes.via (fun t k => XS.icmpYes X0.here hx rfl (pc0 := 40) (pc' := 52) rfl (hb hby d4_40) rfl (tlt hc40_5).1 (by decide) (by decide) k) ?_
            show Goes p e below (s₁.setTop (mkF m 52 #[.val (.int p1)] [])) _
            refine Goes.via (fun t k => XS.iloadN X0.here hx rfl (hb hby d4_52) rfl k) ?_
            show Goes p e below (s₁.setTop (mkF m 53 #[.val (.int p1)] [(.int p1)])) _
            refine Goes.via (fun t k => XS.sipush X0.here hx rfl (hb hby d4_53) k) ?_
            show Goes p e below (s₁.setTop (mkF m 56 #[.val (.int p1)] [(.int (8232 : Int32)), (.int p1)])) _
            by_cases hc56_6 : p1 = (8232 : Int32)
            · refine Goes.via (fun t k => XS.icmpYes X0.here hx rfl (pc0 := 56) (pc' := 93) rfl (hb hby d4_56) rfl (teq hc56_6).1 (by decide) (by decide) k) ?_
              show Goes p e below (s₁.setTop (mkF m 93 #[.val (.int p1)] [])) _
              refine Goes.via (fun t k => XS.iconst X0.here hx rfl (hb hby d4_93) k) ?_
              show Goes p e below (s₁.setTop (mkF m 94 #[.val (.int p1)] [(.int (1 : Int32))])) _
              obtain ⟨fs, hr, hrun, hended, hW, hsame⟩ := X0.leave (v := some (.int (1 : Int32))) (fun h => by rw [Bd.returns] at h; cases h)
              refine ⟨_, _, ?_, hrun, hended, _, _, rfl, ?_, ⟨_, rfl⟩, hW, hsame.mono (by decide) (by decide)⟩
              · exact retN X0 hx (t := .boolean) Bd.returns (by simp) (hb hby d4_94) hr
              · show Q4 Z p1 h0 n0 _ s₁.heap _
                rw [e0]
                exact ⟨congrArg some (congrArg _ (by simp only [f4, if_pos hc3_1, if_neg hc17_2, if_neg hc24_3, if_neg hc31_4, if_pos hc40_5, if_pos hc56_6])), N0, rfl⟩
            · refine Goes.via (fun t k => XS.icmpNo X0.here hx rfl (hb hby d4_56) rfl (feq hc56_6).1 k) ?_
              show Goes p e below (s₁.setTop (mkF m 59 #[.val (.int p1)] [])) _
              refine Goes.via (fun t k => XS.iloadN X0.here hx rfl (hb hby d4_59) rfl k) ?_
              show Goes p e below (s₁.setTop (mkF m 60 #[.val (.int p1)] [(.int p1)])) _
              refine Goes.via (fun t k => XS.sipush X0.here hx rfl (hb hby d4_60) k) ?_
              show Goes p e below (s₁.setTop (mkF m 63 #[.val (.int p1)] [(.int (8233 : Int32)), (.int p1)])) _
              by_cases hc63_7 : p1 = (8233 : Int32)
              · refine Goes.via (fun t k => XS.icmpYes X0.here hx rfl (pc0 := 63) (pc' := 93) rfl (hb hby d4_63) rfl (teq hc63_7).1 (by decide) (by decide) k) ?_
                show Goes p e below (s₁.setTop (mkF m 93 #[.val (.int p1)] [])) _
                refine Goes.via (fun t k => XS.iconst X0.here hx rfl (hb hby d4_93) k) ?_
                show Goes p e below (s₁.setTop (mkF m 94 #[.val (.int p1)] [(.int (1 : Int32))])) _
                obtain ⟨fs, hr, hrun, hended, hW, hsame⟩ := X0.leave (v := some (.int (1 : Int32))) (fun h => by rw [Bd.returns] at h; cases h)
                refine ⟨_, _, ?_, hrun, hended, _, _, rfl, ?_, ⟨_, rfl⟩, hW, hsame.mono (by decide) (by decide)⟩
                · exact retN X0 hx (t := .boolean) Bd.returns (by simp) (hb hby d4_94) hr
                · show Q4 Z p1 h0 n0 _ s₁.heap _
                  rw [e0]
                  exact ⟨congrArg some (congrArg _ (by simp only [f4, if_pos hc3_1, if_neg hc17_2, if_neg hc24_3, if_neg hc31_4, if_pos hc40_5, if_neg hc56_6, if_pos hc63_7])), N0, rfl⟩
              · refine Goes.via (fun t k => XS.icmpNo X0.here hx rfl (hb hby d4_63) rfl (feq hc63_7).1 k) ?_
                show Goes p e below (s₁.setTop (mkF m 66 #[.val (.int p1)] [])) _
                refine Goes.via (fun t k => XS.iloadN X0.here hx rfl (hb hby d4_66) rfl k) ?_
                show Goes p e below (s₁.setTop (mkF m 67 #[.val (.int p1)] [(.int p1)])) _
                refine Goes.via (fun t k => XS.sipush X0.here hx rfl (hb hby d4_67) k) ?_
                show Goes p e below (s₁.setTop (mkF m 70 #[.val (.int p1)] [(.int (8239 : Int32)), (.int p1)])) _
                by_cases hc70_8 : p1 = (8239 : Int32)
                · refine Goes.via (fun t k => XS.icmpYes X0.here hx rfl (pc0 := 70) (pc' := 93) rfl (hb hby d4_70) rfl (teq hc70_8).1 (by decide) (by decide) k) ?_
                  show Goes p e below (s₁.setTop (mkF m 93 #[.val (.int p1)] [])) _
                  refine Goes.via (fun t k => XS.iconst X0.here hx rfl (hb hby d4_93) k) ?_
                  show Goes p e below (s₁.setTop (mkF m 94 #[.val (.int p1)] [(.int (1 : Int32))])) _
                  obtain ⟨fs, hr, hrun, hended, hW, hsame⟩ := X0.leave (v := some (.int (1 : Int32))) (fun h => by rw [Bd.returns] at h; cases h)
                  refine ⟨_, _, ?_, hrun, hended, _, _, rfl, ?_, ⟨_, rfl⟩, hW, hsame.mono (by decide) (by decide)⟩
                  · exact retN X0 hx (t := .boolean) Bd.returns (by simp) (hb hby d4_94) hr
                  · show Q4 Z p1 h0 n0 _ s₁.heap _
                    rw [e0]
                    exact ⟨congrArg some (congrArg _ (by simp only [f4, if_pos hc3_1, if_neg hc17_2, if_neg hc24_3, if_neg hc31_4, if_pos hc40_5, if_neg hc56_6, if_neg hc63_7, if_pos hc70_8])), N0, rfl⟩
                · refine Goes.via (fun t k => XS.icmpNo X0.here hx rfl (hb hby d4_70) rfl (feq hc70_8).1 k) ?_
                  show Goes p e below (s₁.setTop (mkF m 73 #[.val (.int p1)] [])) _
                  refine Goes.via (fun t k => XS.iloadN X0.here hx rfl (hb hby d4_73) rfl k) ?_
                  show Goes p e below (s₁.setTop (mkF m 74 #[.val (.int p1)] [(.int p1)])) _
                  refine Goes.via (fun t k => XS.sipush X0.here hx rfl (hb hby d4_74) k) ?_
                  show Goes p e below (s₁.setTop (mkF m 77 #[.val (.int p1)] [(.int (8287 : Int32)), (.int p1)])) _
                  by_cases hc77_9 : p1 = (8287 : Int32)
                  · refine Goes.via (fun t k => XS.icmpYes X0.here hx rfl (pc0 := 77) (pc' := 93) rfl (hb hby d4_77) rfl (teq hc77_9).1 (by decide) (by decide) k) ?_
                    show Goes p e below (s₁.setTop (mkF m 93 #[.val (.int p1)] [])) _
                    refine Goes.via (fun t k => XS.iconst X0.here hx rfl (hb hby d4_93) k) ?_
                    show Goes p e below (s₁.setTop (mkF m 94 #[.val (.int p1)] [(.int (1 : Int32))])) _
                    obtain ⟨fs, hr, hrun, hended, hW, hsame⟩ := X0.leave (v := some (.int (1 : Int32))) (fun h => by rw [Bd.returns] at h; cases h)
                    refine ⟨_, _, ?_, hrun, hended, _, _, rfl, ?_, ⟨_, rfl⟩, hW, hsame.mono (by decide) (by decide)⟩
                    · exact retN X0 hx (t := .boolean) Bd.returns (by simp) (hb hby d4_94) hr
                    · show Q4 Z p1 h0 n0 _ s₁.heap _
                      rw [e0]
                      exact ⟨congrArg some (congrArg _ (by simp only [f4, if_pos hc3_1, if_neg hc17_2, if_neg hc24_3, if_neg hc31_4, if_pos hc40_5, if_neg hc56_6, if_neg hc63_7, if_neg hc70_8, if_pos hc77_9])), N0, rfl⟩
                  · refine Goes.via (fun t k => XS.icmpNo X0.here hx rfl (hb hby d4_77) rfl (feq hc77_9).1 k) ?_
                    show Goes p e below (s₁.setTop (mkF m 80 #[.val (.int p1)] [])) _
                    refine Goes.via (fun t k => XS.iloadN X0.here hx rfl (hb hby d4_80) rfl k) ?_
                    show Goes p e below (s₁.setTop (mkF m 81 #[.val (.int p1)] [(.int p1)])) _
                    refine Goes.via (fun t k => XS.sipush X0.here hx rfl (hb hby d4_81) k) ?_
                    show Goes p e below (s₁.setTop (mkF m 84 #[.val (.int p1)] [(.int (12288 : Int32)), (.int p1)])) _
                    by_cases hc84_10 : p1 = (12288 : Int32)
                    · refine Goes.via (fun t k => XS.icmpYes X0.here hx rfl (pc0 := 84) (pc' := 93) rfl (hb hby d4_84) rfl (teq hc84_10).1 (by decide) (by decide) k) ?_
                      show Goes p e below (s₁.setTop (mkF m 93 #[.val (.int p1)] [])) _
                      refine Goes.via (fun t k => XS.iconst X0.here hx rfl (hb hby d4_93) k) ?_
                      show Goes p e below (s₁.setTop (mkF m 94 #[.val (.int p1)] [(.int (1 : Int32))])) _
                      obtain ⟨fs, hr, hrun, hended, hW, hsame⟩ := X0.leave (v := some (.int (1 : Int32))) (fun h => by rw [Bd.returns] at h; cases h)
                      refine ⟨_, _, ?_, hrun, hended, _, _, rfl, ?_, ⟨_, rfl⟩, hW, hsame.mono (by decide) (by decide)⟩
                      · exact retN X0 hx (t := .boolean) Bd.returns (by simp) (hb hby d4_94) hr
                      · show Q4 Z p1 h0 n0 _ s₁.heap _
                        rw [e0]
                        exact ⟨congrArg some (congrArg _ (by simp only [f4, if_pos hc3_1, if_neg hc17_2, if_neg hc24_3, if_neg hc31_4, if_pos hc40_5, if_neg hc56_6, if_neg hc63_7, if_neg hc70_8, if_neg hc77_9, if_pos hc84_10])), N0, rfl⟩
                    · refine Goes.via (fun t k => XS.icmpNo X0.here hx rfl (hb hby d4_84) rfl (feq hc84_10).1 k) ?_
                      show Goes p e below (s₁.setTop (mkF m 87 #[.val (.int p1)] [])) _
                      refine Goes.via (fun t k => XS.iloadN X0.here hx rfl (hb hby d4_87) rfl k) ?_
                      show Goes p e below (s₁.setTop (mkF m 88 #[.val (.int p1)] [(.int p1)])) _
                      refine Goes.via (fun t k => X0.ldcInt hx hown (mvT hZ (hw _ (List.mem_of_getElem? (i := 1) rfl))) (g := (mkF m 88 #[.val (.int p1)] [(.int p1)])) rfl (hb hby d4_88) _ k) ?_
                      show Goes p e below (s₁.setTop (mkF m 90 #[.val (.int p1)] [(.int (65279 : Int32)), (.int p1)])) _
                      by_cases hc90_11 : p1 = (65279 : Int32)
                      · refine Goes.via (fun t k => XS.icmpNo X0.here hx rfl (hb hby d4_90) rfl (teq hc90_11).2 k) ?_
                        show Goes p e below (s₁.setTop (mkF m 93 #[.val (.int p1)] [])) _
                        refine Goes.via (fun t k => XS.iconst X0.here hx rfl (hb hby d4_93) k) ?_
                        show Goes p e below (s₁.setTop (mkF m 94 #[.val (.int p1)] [(.int (1 : Int32))])) _
                        obtain ⟨fs, hr, hrun, hended, hW, hsame⟩ := X0.leave (v := some (.int (1 : Int32))) (fun h => by rw [Bd.returns] at h; cases h)
                        refine ⟨_, _, ?_, hrun, hended, _, _, rfl, ?_, ⟨_, rfl⟩, hW, hsame.mono (by decide) (by decide)⟩
                        · exact retN X0 hx (t := .boolean) Bd.returns (by simp) (hb hby d4_94) hr
                        · show Q4 Z p1 h0 n0 _ s₁.heap _
                          rw [e0]
                          exact ⟨congrArg some (congrArg _ (by simp only [f4, if_pos hc3_1, if_neg hc17_2, if_neg hc24_3, if_neg hc31_4, if_pos hc40_5, if_neg hc56_6, if_neg hc63_7, if_neg hc70_8, if_neg hc77_9, if_neg hc84_10, if_pos hc90_11])), N0, rfl⟩
                      · refine Goes.via (fun t k => XS.icmpYes X0.here hx rfl (pc0 := 90) (pc' := 95) rfl (hb hby d4_90) rfl (feq hc90_11).2 (by decide) (by decide) k) ?_
                        show Goes p e below (s₁.setTop (mkF m 95 #[.val (.int p1)] [])) _
                        refine Goes.via (fun t k => XS.iconst X0.here hx rfl (hb hby d4_95) k) ?_
                        show Goes p e below (s₁.setTop (mkF m 96 #[.val (.int p1)] [(.int (0 : Int32))])) _
                        obtain ⟨fs, hr, hrun, hended, hW, hsame⟩ := X0.leave (v := some (.int (0 : Int32))) (fun h => by rw [Bd.returns] at h; cases h)
                        refine ⟨_, _, ?_, hrun, hended, _, _, rfl, ?_, ⟨_, rfl⟩, hW, hsame.mono (by decide) (by decide)⟩
                        · exact retN X0 hx (t := .boolean) Bd.returns (by simp) (hb hby d4_96) hr
                        · show Q4 Z p1 h0 n0 _ s₁.heap _
                          rw [e0]
                          exact ⟨congrArg some (congrArg _ (by simp only [f4, if_pos hc3_1, if_neg hc17_2, if_neg hc24_3, if_neg hc31_4, if_pos hc40_5, if_neg hc56_6, if_neg hc63_7, if_neg hc70_8, if_neg hc77_9, if_neg hc84_10, if_neg hc90_11])), N0, rfl⟩
          · refine Goes.via (fun t k => XS.icmpNo X0.here hx rfl (hb hby d4_40) rfl (flt hc40_5).1 k) ?_
            show Goes p e below (s₁.setTop (mkF m 43 #[.val (.int p1)] [])) _
            refine Goes.via (fun t k => XS.iloadN X0.here hx rfl (hb hby d4_43) rfl k) ?_
            show Goes p e below (s₁.setTop (mkF m 44 #[.val (.int p1)] [(.int p1)])) _
            refine Goes.via (fun t k => XS.sipush X0.here hx rfl (hb hby d4_44) k) ?_
            show Goes p e below (s₁.setTop (mkF m 47 #[.val (.int p1)] [(.int (8202 : Int32)), (.int p1)])) _
            by_cases hc47_12 : (8202 : Int32) < p1
            · refine Goes.via (fun t k => XS.icmpYes X0.here hx rfl (pc0 := 47) (pc' := 52) rfl (hb hby d4_47) rfl (tlt hc47_12).2.2.1 (by decide) (by decide) k) ?_
              show Goes p e below (s₁.setTop (mkF m 52 #[.val (.int p1)] [])) _
              refine Goes.via (fun t k => XS.iloadN X0.here hx rfl (hb hby d4_52) rfl k) ?_
              show Goes p e below (s₁.setTop (mkF m 53 #[.val (.int p1)] [(.int p1)])) _
              refine Goes.via (fun t k => XS.sipush X0.here hx rfl (hb hby d4_53) k) ?_
              show Goes p e below (s₁.setTop (mkF m 56 #[.val (.int p1)] [(.int (8232 : Int32)), (.int p1)])) _
              by_cases hc56_13 : p1 = (8232 : Int32)
              · refine Goes.via (fun t k => XS.icmpYes X0.here hx rfl (pc0 := 56) (pc' := 93) rfl (hb hby d4_56) rfl (teq hc56_13).1 (by decide) (by decide) k) ?_
                show Goes p e below (s₁.setTop (mkF m 93 #[.val (.int p1)] [])) _
                refine Goes.via (fun t k => XS.iconst X0.here hx rfl (hb hby d4_93) k) ?_
                show Goes p e below (s₁.setTop (mkF m 94 #[.val (.int p1)] [(.int (1 : Int32))])) _
                obtain ⟨fs, hr, hrun, hended, hW, hsame⟩ := X0.leave (v := some (.int (1 : Int32))) (fun h => by rw [Bd.returns] at h; cases h)
                refine ⟨_, _, ?_, hrun, hended, _, _, rfl, ?_, ⟨_, rfl⟩, hW, hsame.mono (by decide) (by decide)⟩
                · exact retN X0 hx (t := .boolean) Bd.returns (by simp) (hb hby d4_94) hr
                · show Q4 Z p1 h0 n0 _ s₁.heap _
                  rw [e0]
                  exact ⟨congrArg some (congrArg _ (by simp only [f4, if_pos hc3_1, if_neg hc17_2, if_neg hc24_3, if_neg hc31_4, if_neg hc40_5, if_pos hc47_12, if_pos hc56_13])), N0, rfl⟩
              · refine Goes.via (fun t k => XS.icmpNo X0.here hx rfl (hb hby d4_56) rfl (feq hc56_13).1 k) ?_
                show Goes p e below (s₁.setTop (mkF m 59 #[.val (.int p1)] [])) _
                refine Goes.via (fun t k => XS.iloadN X0.here hx rfl (hb hby d4_59) rfl k) ?_
                show Goes p e below (s₁.setTop (mkF m 60 #[.val (.int p1)] [(.int p1)])) _
                refine Goes.via (fun t k => XS.sipush X0.here hx rfl (hb hby d4_60) k) ?_
                show Goes p e below (s₁.setTop (mkF m 63 #[.val (.int p1)] [(.int (8233 : Int32)), (.int p1)])) _
                by_cases hc63_14 : p1 = (8233 : Int32)
                · refine Goes.via (fun t k => XS.icmpYes X0.here hx rfl (pc0 := 63) (pc' := 93) rfl (hb hby d4_63) rfl (teq hc63_14).1 (by decide) (by decide) k) ?_
                  show Goes p e below (s₁.setTop (mkF m 93 #[.val (.int p1)] [])) _
                  refine Goes.via (fun t k => XS.iconst X0.here hx rfl (hb hby d4_93) k) ?_
                  show Goes p e below (s₁.setTop (mkF m 94 #[.val (.int p1)] [(.int (1 : Int32))])) _
                  obtain ⟨fs, hr, hrun, hended, hW, hsame⟩ := X0.leave (v := some (.int (1 : Int32))) (fun h => by rw [Bd.returns] at h; cases h)
                  refine ⟨_, _, ?_, hrun, hended, _, _, rfl, ?_, ⟨_, rfl⟩, hW, hsame.mono (by decide) (by decide)⟩
                  · exact retN X0 hx (t := .boolean) Bd.returns (by simp) (hb hby d4_94) hr
                  · show Q4 Z p1 h0 n0 _ s₁.heap _
                    rw [e0]
                    exact ⟨congrArg some (congrArg _ (by simp only [f4, if_pos hc3_1, if_neg hc17_2, if_neg hc24_3, if_neg hc31_4, if_neg hc40_5, if_pos hc47_12, if_neg hc56_13, if_pos hc63_14])), N0, rfl⟩
                · refine Goes.via (fun t k => XS.icmpNo X0.here hx rfl (hb hby d4_63) rfl (feq hc63_14).1 k) ?_
                  show Goes p e below (s₁.setTop (mkF m 66 #[.val (.int p1)] [])) _
                  refine Goes.via (fun t k => XS.iloadN X0.here hx rfl (hb hby d4_66) rfl k) ?_
                  show Goes p e below (s₁.setTop (mkF m 67 #[.val (.int p1)] [(.int p1)])) _
                  refine Goes.via (fun t k => XS.sipush X0.here hx rfl (hb hby d4_67) k) ?_
                  show Goes p e below (s₁.setTop (mkF m 70 #[.val (.int p1)] [(.int (8239 : Int32)), (.int p1)])) _
                  by_cases hc70_15 : p1 = (8239 : Int32)
                  · refine Goes.via (fun t k => XS.icmpYes X0.here hx rfl (pc0 := 70) (pc' := 93) rfl (hb hby d4_70) rfl (teq hc70_15).1 (by decide) (by decide) k) ?_
                    show Goes p e below (s₁.setTop (mkF m 93 #[.val (.int p1)] [])) _
                    refine Goes.via (fun t k => XS.iconst X0.here hx rfl (hb hby d4_93) k) ?_
                    show Goes p e below (s₁.setTop (mkF m 94 #[.val (.int p1)] [(.int (1 : Int32))])) _
                    obtain ⟨fs, hr, hrun, hended, hW, hsame⟩ := X0.leave (v := some (.int (1 : Int32))) (fun h => by rw [Bd.returns] at h; cases h)
                    refine ⟨_, _, ?_, hrun, hended, _, _, rfl, ?_, ⟨_, rfl⟩, hW, hsame.mono (by decide) (by decide)⟩
                    · exact retN X0 hx (t := .boolean) Bd.returns (by simp) (hb hby d4_94) hr
                    · show Q4 Z p1 h0 n0 _ s₁.heap _
                      rw [e0]
                      exact ⟨congrArg some (congrArg _ (by simp only [f4, if_pos hc3_1, if_neg hc17_2, if_neg hc24_3, if_neg hc31_4, if_neg hc40_5, if_pos hc47_12, if_neg hc56_13, if_neg hc63_14, if_pos hc70_15])), N0, rfl⟩
                  · refine Goes.via (fun t k => XS.icmpNo X0.here hx rfl (hb hby d4_70) rfl (feq hc70_15).1 k) ?_
                    show Goes p e below (s₁.setTop (mkF m 73 #[.val (.int p1)] [])) _
                    refine Goes.via (fun t k => XS.iloadN X0.here hx rfl (hb hby d4_73) rfl k) ?_
                    show Goes p e below (s₁.setTop (mkF m 74 #[.val (.int p1)] [(.int p1)])) _
                    refine Goes.via (fun t k => XS.sipush X0.here hx rfl (hb hby d4_74) k) ?_
                    show Goes p e below (s₁.setTop (mkF m 77 #[.val (.int p1)] [(.int (8287 : Int32)), (.int p1)])) _
                    by_cases hc77_16 : p1 = (8287 : Int32)
                    · refine Goes.via (fun t k => XS.icmpYes X0.here hx rfl (pc0 := 77) (pc' := 93) rfl (hb hby d4_77) rfl (teq hc77_16).1 (by decide) (by decide) k) ?_
                      show Goes p e below (s₁.setTop (mkF m 93 #[.val (.int p1)] [])) _
                      refine Goes.via (fun t k => XS.iconst X0.here hx rfl (hb hby d4_93) k) ?_
                      show Goes p e below (s₁.setTop (mkF m 94 #[.val (.int p1)] [(.int (1 : Int32))])) _
                      obtain ⟨fs, hr, hrun, hended, hW, hsame⟩ := X0.leave (v := some (.int (1 : Int32))) (fun h => by rw [Bd.returns] at h; cases h)
                      refine ⟨_, _, ?_, hrun, hended, _, _, rfl, ?_, ⟨_, rfl⟩, hW, hsame.mono (by decide) (by decide)⟩
                      · exact retN X0 hx (t := .boolean) Bd.returns (by simp) (hb hby d4_94) hr
                      · show Q4 Z p1 h0 n0 _ s₁.heap _
                        rw [e0]
                        exact ⟨congrArg some (congrArg _ (by simp only [f4, if_pos hc3_1, if_neg hc17_2, if_neg hc24_3, if_neg hc31_4, if_neg hc40_5, if_pos hc47_12, if_neg hc56_13, if_neg hc63_14, if_neg hc70_15, if_pos hc77_16])), N0, rfl⟩
                    · refine Goes.via (fun t k => XS.icmpNo X0.here hx rfl (hb hby d4_77) rfl (feq hc77_16).1 k) ?_
                      show Goes p e below (s₁.setTop (mkF m 80 #[.val (.int p1)] [])) _
                      refine Goes.via (fun t k => XS.iloadN X0.here hx rfl (hb hby d4_80) rfl k) ?_
                      show Goes p e below (s₁.setTop (mkF m 81 #[.val (.int p1)] [(.int p1)])) _
                      refine Goes.via (fun t k => XS.sipush X0.here hx rfl (hb hby d4_81) k) ?_
                      show Goes p e below (s₁.setTop (mkF m 84 #[.val (.int p1)] [(.int (12288 : Int32)), (.int p1)])) _
                      by_cases hc84_17 : p1 = (12288 : Int32)
                      · refine Goes.via (fun t k => XS.icmpYes X0.here hx rfl (pc0 := 84) (pc' := 93) rfl (hb hby d4_84) rfl (teq hc84_17).1 (by decide) (by decide) k) ?_
                        show Goes p e below (s₁.setTop (mkF m 93 #[.val (.int p1)] [])) _
                        refine Goes.via (fun t k => XS.iconst X0.here hx rfl (hb hby d4_93) k) ?_
                        show Goes p e below (s₁.setTop (mkF m 94 #[.val (.int p1)] [(.int (1 : Int32))])) _
                        obtain ⟨fs, hr, hrun, hended, hW, hsame⟩ := X0.leave (v := some (.int (1 : Int32))) (fun h => by rw [Bd.returns] at h; cases h)
                        refine ⟨_, _, ?_, hrun, hended, _, _, rfl, ?_, ⟨_, rfl⟩, hW, hsame.mono (by decide) (by decide)⟩
                        · exact retN X0 hx (t := .boolean) Bd.returns (by simp) (hb hby d4_94) hr
                        · show Q4 Z p1 h0 n0 _ s₁.heap _
                          rw [e0]
                          exact ⟨congrArg some (congrArg _ (by simp only [f4, if_pos hc3_1, if_neg hc17_2, if_neg hc24_3, if_neg hc31_4, if_neg hc40_5, if_pos hc47_12, if_neg hc56_13, if_neg hc63_14, if_neg hc70_15, if_neg hc77_16, if_pos hc84_17])), N0, rfl⟩
                      · refine Goes.via (fun t k => XS.icmpNo X0.here hx rfl (hb hby d4_84) rfl (feq hc84_17).1 k) ?_
                        show Goes p e below (s₁.setTop (mkF m 87 #[.val (.int p1)] [])) _
                        refine Goes.via (fun t k => XS.iloadN X0.here hx rfl (hb hby d4_87) rfl k) ?_
                        show Goes p e below (s₁.setTop (mkF m 88 #[.val (.int p1)] [(.int p1)])) _
                        refine Goes.via (fun t k => X0.ldcInt hx hown (mvT hZ (hw _ (List.mem_of_getElem? (i := 1) rfl))) (g := (mkF m 88 #[.val (.int p1)] [(.int p1)])) rfl (hb hby d4_88) _ k) ?_
                        show Goes p e below (s₁.setTop (mkF m 90 #[.val (.int p1)] [(.int (65279 : Int32)), (.int p1)])) _
                        by_cases hc90_18 : p1 = (65279 : Int32)
                        · refine Goes.via (fun t k => XS.icmpNo X0.here hx rfl (hb hby d4_90) rfl (teq hc90_18).2 k) ?_
                          show Goes p e below (s₁.setTop (mkF m 93 #[.val (.int p1)] [])) _
                          refine Goes.via (fun t k => XS.iconst X0.here hx rfl (hb hby d4_93) k) ?_
                          show Goes p e below (s₁.setTop (mkF m 94 #[.val (.int p1)] [(.int (1 : Int32))])) _
                          obtain ⟨fs, hr, hrun, hended, hW, hsame⟩ := X0.leave (v := some (.int (1 : Int32))) (fun h => by rw [Bd.returns] at h; cases h)
                          refine ⟨_, _, ?_, hrun, hended, _, _, rfl, ?_, ⟨_, rfl⟩, hW, hsame.mono (by decide) (by decide)⟩
                          · exact retN X0 hx (t := .boolean) Bd.returns (by simp) (hb hby d4_94) hr
                          · show Q4 Z p1 h0 n0 _ s₁.heap _
                            rw [e0]
                            exact ⟨congrArg some (congrArg _ (by simp only [f4, if_pos hc3_1, if_neg hc17_2, if_neg hc24_3, if_neg hc31_4, if_neg hc40_5, if_pos hc47_12, if_neg hc56_13, if_neg hc63_14, if_neg hc70_15, if_neg hc77_16, if_neg hc84_17, if_pos hc90_18])), N0, rfl⟩
                        · refine Goes.via (fun t k => XS.icmpYes X0.here hx rfl (pc0 := 90) (pc' := 95) rfl (hb hby d4_90) rfl (feq hc90_18).2 (by decide) (by decide) k) ?_
                          show Goes p e below (s₁.setTop (mkF m 95 #[.val (.int p1)] [])) _
                          refine Goes.via (fun t k => XS.iconst X0.here hx rfl (hb hby d4_95) k) ?_
                          show Goes p e below (s₁.setTop (mkF m 96 #[.val (.int p1)] [(.int (0 : Int32))])) _
                          obtain ⟨fs, hr, hrun, hended, hW, hsame⟩ := X0.leave (v := some (.int (0 : Int32))) (fun h => by rw [Bd.returns] at h; cases h)
                          refine ⟨_, _, ?_, hrun, hended, _, _, rfl, ?_, ⟨_, rfl⟩, hW, hsame.mono (by decide) (by decide)⟩
                          · exact retN X0 hx (t := .boolean) Bd.returns (by simp) (hb hby d4_96) hr
                          · show Q4 Z p1 h0 n0 _ s₁.heap _
                            rw [e0]
                            exact ⟨congrArg some (congrArg _ (by simp only [f4, if_pos hc3_1, if_neg hc17_2, if_neg hc24_3, if_neg hc31_4, if_neg hc40_5, if_pos hc47_12, if_neg hc56_13, if_neg hc63_14, if_neg hc70_15, if_neg hc77_16, if_neg hc84_17, if_neg hc90_18])), N0, rfl⟩
            · refine Goes.via (fun t k => XS.icmpNo X0.here hx rfl (hb hby d4_47) rfl (flt hc47_12).2.2.1 k) ?_
              show Goes p e below (s₁.setTop (mkF m 50 #[.val (.int p1)] [])) _
              refine Goes.via (fun t k => XS.iconst X0.here hx rfl (hb hby d4_50) k) ?_
              show Goes p e below (s₁.setTop (mkF m 51 #[.val (.int p1)] [(.int (1 : Int32))])) _
              obtain ⟨fs, hr, hrun, hended, hW, hsame⟩ := X0.leave (v := some (.int (1 : Int32))) (fun h => by rw [Bd.returns] at h; cases h)
              refine ⟨_, _, ?_, hrun, hended, _, _, rfl, ?_, ⟨_, rfl⟩, hW, hsame.mono (by decide) (by decide)⟩
              · exact retN X0 hx (t := .boolean) Bd.returns (by simp) (hb hby d4_51) hr
              · show Q4 Z p1 h0 n0 _ s₁.heap _
                rw [e0]
                exact ⟨congrArg some (congrArg _ (by simp only [f4, if_pos hc3_1, if_neg hc17_2, if_neg hc24_3, if_neg hc31_4, if_neg hc40_5, if_neg hc47_12])), N0, rfl⟩
  · refine Goes.via (fun t k => XS.icmpNo X0.here hx rfl (hb hby d4_3) rfl (flt hc3_1).1 k) ?_
    show Goes p e below (s₁.setTop (mkF m 6 #[.val (.int p1)] [])) _
    refine Goes.via (fun t k => XS.iloadN X0.here hx rfl (hb hby d4_6) rfl k) ?_
    show Goes p e below (s₁.setTop (mkF m 7 #[.val (.int p1)] [(.int p1)])) _
    refine Goes.via (fun t k => XS.bipush X0.here hx rfl (hb hby d4_7) k) ?_
    show Goes p e below (s₁.setTop (mkF m 9 #[.val (.int p1)] [(.int (13 : Int32)), (.int p1)])) _
    by_cases hc9_19 : (13 : Int32) < p1
    · refine Goes.via (fun t k => XS.icmpYes X0.here hx rfl (pc0 := 9) (pc' := 14) rfl (hb hby d4_9) rfl (tlt hc9_19).2.2.1 (by decide) (by decide) k) ?_
      show Goes p e below (s₁.setTop (mkF m 14 #[.val (.int p1)] [])) _
      refine Goes.via (fun t k => XS.iloadN X0.here hx rfl (hb hby d4_14) rfl k) ?_
      show Goes p e below (s₁.setTop (mkF m 15 #[.val (.int p1)] [(.int p1)])) _
      refine Goes.via (fun t k => XS.bipush X0.here hx rfl (hb hby d4_15) k) ?_
      show Goes p e below (s₁.setTop (mkF m 17 #[.val (.int p1)] [(.int (32 : Int32)), (.int p1)])) _
      by_cases hc17_20 : p1 = (32 : Int32)
      · refine Goes.via (fun t k => XS.icmpYes X0.here hx rfl (pc0 := 17) (pc' := 34) rfl (hb hby d4_17) rfl (teq hc17_20).1 (by decide) (by decide) k) ?_
        show Goes p e below (s₁.setTop (mkF m 34 #[.val (.int p1)] [])) _
        refine Goes.via (fun t k => XS.iconst X0.here hx rfl (hb hby d4_34) k) ?_
        show Goes p e below (s₁.setTop (mkF m 35 #[.val (.int p1)] [(.int (1 : Int32))])) _
        obtain ⟨fs, hr, hrun, hended, hW, hsame⟩ := X0.leave (v := some (.int (1 : Int32))) (fun h => by rw [Bd.returns] at h; cases h)
        refine ⟨_, _, ?_, hrun, hended, _, _, rfl, ?_, ⟨_, rfl⟩, hW, hsame.mono (by decide) (by decide)⟩
        · exact retN X0 hx (t := .boolean) Bd.returns (by simp) (hb hby d4_35) hr
        · show Q4 Z p1 h0 n0 _ s₁.heap _
          rw [e0]
          exact ⟨congrArg some (congrArg _ (by simp only [f4, if_neg hc3_1, if_pos hc9_19, if_pos hc17_20])), N0, rfl⟩
      · refine Goes.via (fun t k => XS.icmpNo X0.here hx rfl (hb hby d4_17) rfl (feq hc17_20).1 k) ?_
        show Goes p e below (s₁.setTop (mkF m 20 #[.val (.int p1)] [])) _
        refine Goes.via (fun t k => XS.iloadN X0.here hx rfl (hb hby d4_20) rfl k) ?_
        show Goes p e below (s₁.setTop (mkF m 21 #[.val (.int p1)] [(.int p1)])) _
        refine Goes.via (fun t k => XS.sipush X0.here hx rfl (hb hby d4_21) k) ?_
        show Goes p e below (s₁.setTop (mkF m 24 #[.val (.int p1)] [(.int (160 : Int32)), (.int p1)])) _
        by_cases hc24_21 : p1 = (160 : Int32)
        · refine Goes.via (fun t k => XS.icmpYes X0.here hx rfl (pc0 := 24) (pc' := 34) rfl (hb hby d4_24) rfl (teq hc24_21).1 (by decide) (by decide) k) ?_
          show Goes p e below (s₁.setTop (mkF m 34 #[.val (.int p1)] [])) _
          refine Goes.via (fun t k => XS.iconst X0.here hx rfl (hb hby d4_34) k) ?_
          show Goes p e below (s₁.setTop (mkF m 35 #[.val (.int p1)] [(.int (1 : Int32))])) _
          obtain ⟨fs, hr, hrun, hended, hW, hsame⟩ := X0.leave (v := some (.int (1 : Int32))) (fun h => by rw [Bd.returns] at h; cases h)
          refine ⟨_, _, ?_, hrun, hended, _, _, rfl, ?_, ⟨_, rfl⟩, hW, hsame.mono (by decide) (by decide)⟩
          · exact retN X0 hx (t := .boolean) Bd.returns (by simp) (hb hby d4_35) hr
          · show Q4 Z p1 h0 n0 _ s₁.heap _
            rw [e0]
            exact ⟨congrArg some (congrArg _ (by simp only [f4, if_neg hc3_1, if_pos hc9_19, if_neg hc17_20, if_pos hc24_21])), N0, rfl⟩
        · refine Goes.via (fun t k => XS.icmpNo X0.here hx rfl (hb hby d4_24) rfl (feq hc24_21).1 k) ?_
          show Goes p e below (s₁.setTop (mkF m 27 #[.val (.int p1)] [])) _
          refine Goes.via (fun t k => XS.iloadN X0.here hx rfl (hb hby d4_27) rfl k) ?_
          show Goes p e below (s₁.setTop (mkF m 28 #[.val (.int p1)] [(.int p1)])) _
          refine Goes.via (fun t k => XS.sipush X0.here hx rfl (hb hby d4_28) k) ?_
          show Goes p e below (s₁.setTop (mkF m 31 #[.val (.int p1)] [(.int (5760 : Int32)), (.int p1)])) _
          by_cases hc31_22 : p1 = (5760 : Int32)
          · refine Goes.via (fun t k => XS.icmpNo X0.here hx rfl (hb hby d4_31) rfl (teq hc31_22).2 k) ?_
            show Goes p e below (s₁.setTop (mkF m 34 #[.val (.int p1)] [])) _
            refine Goes.via (fun t k => XS.iconst X0.here hx rfl (hb hby d4_34) k) ?_
            show Goes p e below (s₁.setTop (mkF m 35 #[.val (.int p1)] [(.int (1 : Int32))])) _
            obtain ⟨fs, hr, hrun, hended, hW, hsame⟩ := X0.leave (v := some (.int (1 : Int32))) (fun h => by rw [Bd.returns] at h; cases h)
            refine ⟨_, _, ?_, hrun, hended, _, _, rfl, ?_, ⟨_, rfl⟩, hW, hsame.mono (by decide) (by decide)⟩
            · exact retN X0 hx (t := .boolean) Bd.returns (by simp) (hb hby d4_35) hr
            · show Q4 Z p1 h0 n0 _ s₁.heap _
              rw [e0]
              exact ⟨congrArg some (congrArg _ (by simp only [f4, if_neg hc3_1, if_pos hc9_19, if_neg hc17_20, if_neg hc24_21, if_pos hc31_22])), N0, rfl⟩
          · refine Goes.via (fun t k => XS.icmpYes X0.here hx rfl (pc0 := 31) (pc' := 36) rfl (hb hby d4_31) rfl (feq hc31_22).2 (by decide) (by decide) k) ?_
            show Goes p e below (s₁.setTop (mkF m 36 #[.val (.int p1)] [])) _
            refine Goes.via (fun t k => XS.iloadN X0.here hx rfl (hb hby d4_36) rfl k) ?_
            show Goes p e below (s₁.setTop (mkF m 37 #[.val (.int p1)] [(.int p1)])) _
            refine Goes.via (fun t k => XS.sipush X0.here hx rfl (hb hby d4_37) k) ?_
            show Goes p e below (s₁.setTop (mkF m 40 #[.val (.int p1)] [(.int (8192 : Int32)), (.int p1)])) _
            by_cases hc40_23 : p1 < (8192 : Int32)
            · refine Goes.via (fun t k => XS.icmpYes X0.here hx rfl (pc0 := 40) (pc' := 52) rfl (hb hby d4_40) rfl (tlt hc40_23).1 (by decide) (by decide) k) ?_
              show Goes p e below (s₁.setTop (mkF m 52 #[.val (.int p1)] [])) _
              refine Goes.via (fun t k => XS.iloadN X0.here hx rfl (hb hby d4_52) rfl k) ?_
              show Goes p e below (s₁.setTop (mkF m 53 #[.val (.int p1)] [(.int p1)])) _
              refine Goes.via (fun t k => XS.sipush X0.here hx rfl (hb hby d4_53) k) ?_
              show Goes p e below (s₁.setTop (mkF m 56 #[.val (.int p1)] [(.int (8232 : Int32)), (.int p1)])) _
              by_cases hc56_24 : p1 = (8232 : Int32)
              · refine Goes.via (fun t k => XS.icmpYes X0.here hx rfl (pc0 := 56) (pc' := 93) rfl (hb hby d4_56) rfl (teq hc56_24).1 (by decide) (by decide) k) ?_
                show Goes p e below (s₁.setTop (mkF m 93 #[.val (.int p1)] [])) _
                refine Goes.via (fun t k => XS.iconst X0.here hx rfl (hb hby d4_93) k) ?_
                show Goes p e below (s₁.setTop (mkF m 94 #[.val (.int p1)] [(.int (1 : Int32))])) _
                obtain ⟨fs, hr, hrun, hended, hW, hsame⟩ := X0.leave (v := some (.int (1 : Int32))) (fun h => by rw [Bd.returns] at h; cases h)
                refine ⟨_, _, ?_, hrun, hended, _, _, rfl, ?_, ⟨_, rfl⟩, hW, hsame.mono (by decide) (by decide)⟩
                · exact retN X0 hx (t := .boolean) Bd.returns (by simp) (hb hby d4_94) hr
                · show Q4 Z p1 h0 n0 _ s₁.heap _
                  rw [e0]
                  exact ⟨congrArg some (congrArg _ (by simp only [f4, if_neg hc3_1, if_pos hc9_19, if_neg hc17_20, if_neg hc24_21, if_neg hc31_22, if_pos hc40_23, if_pos hc56_24])), N0, rfl⟩
              · refine Goes.via (fun t k => XS.icmpNo X0.here hx rfl (hb hby d4_56) rfl (feq hc56_24).1 k) ?_
                show Goes p e below (s₁.setTop (mkF m 59 #[.val (.int p1)] [])) _
                refine Goes.via (fun t k => XS.iloadN X0.here hx rfl (hb hby d4_59) rfl k) ?_
                show Goes p e below (s₁.setTop (mkF m 60 #[.val (.int p1)] [(.int p1)])) _
                refine Goes.via (fun t k => XS.sipush X0.here hx rfl (hb hby d4_60) k) ?_
                show Goes p e below (s₁.setTop (mkF m 63 #[.val (.int p1)] [(.int (8233 : Int32)), (.int p1)])) _
                by_cases hc63_25 : p1 = (8233 : Int32)
                · refine Goes.via (fun t k => XS.icmpYes X0.here hx rfl (pc0 := 63) (pc' := 93) rfl (hb hby d4_63) rfl (teq hc63_25).1 (by decide) (by decide) k) ?_
                  show Goes p e below (s₁.setTop (mkF m 93 #[.val (.int p1)] [])) _
                  refine Goes.via (fun t k => XS.iconst X0.here hx rfl (hb hby d4_93) k) ?_
                  show Goes p e below (s₁.setTop (mkF m 94 #[.val (.int p1)] [(.int (1 : Int32))])) _
                  obtain ⟨fs, hr, hrun, hended, hW, hsame⟩ := X0.leave (v := some (.int (1 : Int32))) (fun h => by rw [Bd.returns] at h; cases h)
                  refine ⟨_, _, ?_, hrun, hended, _, _, rfl, ?_, ⟨_, rfl⟩, hW, hsame.mono (by decide) (by decide)⟩
                  · exact retN X0 hx (t := .boolean) Bd.returns (by simp) (hb hby d4_94) hr
                  · show Q4 Z p1 h0 n0 _ s₁.heap _
                    rw [e0]
                    exact ⟨congrArg some (congrArg _ (by simp only [f4, if_neg hc3_1, if_pos hc9_19, if_neg hc17_20, if_neg hc24_21, if_neg hc31_22, if_pos hc40_23, if_neg hc56_24, if_pos hc63_25])), N0, rfl⟩
                · refine Goes.via (fun t k => XS.icmpNo X0.here hx rfl (hb hby d4_63) rfl (feq hc63_25).1 k) ?_
                  show Goes p e below (s₁.setTop (mkF m 66 #[.val (.int p1)] [])) _
                  refine Goes.via (fun t k => XS.iloadN X0.here hx rfl (hb hby d4_66) rfl k) ?_
                  show Goes p e below (s₁.setTop (mkF m 67 #[.val (.int p1)] [(.int p1)])) _
                  refine Goes.via (fun t k => XS.sipush X0.here hx rfl (hb hby d4_67) k) ?_
                  show Goes p e below (s₁.setTop (mkF m 70 #[.val (.int p1)] [(.int (8239 : Int32)), (.int p1)])) _
                  by_cases hc70_26 : p1 = (8239 : Int32)
                  · refine Goes.via (fun t k => XS.icmpYes X0.here hx rfl (pc0 := 70) (pc' := 93) rfl (hb hby d4_70) rfl (teq hc70_26).1 (by decide) (by decide) k) ?_
                    show Goes p e below (s₁.setTop (mkF m 93 #[.val (.int p1)] [])) _
                    refine Goes.via (fun t k => XS.iconst X0.here hx rfl (hb hby d4_93) k) ?_
                    show Goes p e below (s₁.setTop (mkF m 94 #[.val (.int p1)] [(.int (1 : Int32))])) _
                    obtain ⟨fs, hr, hrun, hended, hW, hsame⟩ := X0.leave (v := some (.int (1 : Int32))) (fun h => by rw [Bd.returns] at h; cases h)
                    refine ⟨_, _, ?_, hrun, hended, _, _, rfl, ?_, ⟨_, rfl⟩, hW, hsame.mono (by decide) (by decide)⟩
                    · exact retN X0 hx (t := .boolean) Bd.returns (by simp) (hb hby d4_94) hr
                    · show Q4 Z p1 h0 n0 _ s₁.heap _
                      rw [e0]
                      exact ⟨congrArg some (congrArg _ (by simp only [f4, if_neg hc3_1, if_pos hc9_19, if_neg hc17_20, if_neg hc24_21, if_neg hc31_22, if_pos hc40_23, if_neg hc56_24, if_neg hc63_25, if_pos hc70_26])), N0, rfl⟩
                  · refine Goes.via (fun t k => XS.icmpNo X0.here hx rfl (hb hby d4_70) rfl (feq hc70_26).1 k) ?_
                    show Goes p e below (s₁.setTop (mkF m 73 #[.val (.int p1)] [])) _
                    refine Goes.via (fun t k => XS.iloadN X0.here hx rfl (hb hby d4_73) rfl k) ?_
                    show Goes p e below (s₁.setTop (mkF m 74 #[.val (.int p1)] [(.int p1)])) _
                    refine Goes.via (fun t k => XS.sipush X0.here hx rfl (hb hby d4_74) k) ?_
                    show Goes p e below (s₁.setTop (mkF m 77 #[.val (.int p1)] [(.int (8287 : Int32)), (.int p1)])) _
                    by_cases hc77_27 : p1 = (8287 : Int32)
                    · refine Goes.via (fun t k => XS.icmpYes X0.here hx rfl (pc0 := 77) (pc' := 93) rfl (hb hby d4_77) rfl (teq hc77_27).1 (by decide) (by decide) k) ?_
                      show Goes p e below (s₁.setTop (mkF m 93 #[.val (.int p1)] [])) _
                      refine Goes.via (fun t k => XS.iconst X0.here hx rfl (hb hby d4_93) k) ?_
                      show Goes p e below (s₁.setTop (mkF m 94 #[.val (.int p1)] [(.int (1 : Int32))])) _
                      obtain ⟨fs, hr, hrun, hended, hW, hsame⟩ := X0.leave (v := some (.int (1 : Int32))) (fun h => by rw [Bd.returns] at h; cases h)
                      refine ⟨_, _, ?_, hrun, hended, _, _, rfl, ?_, ⟨_, rfl⟩, hW, hsame.mono (by decide) (by decide)⟩
                      · exact retN X0 hx (t := .boolean) Bd.returns (by simp) (hb hby d4_94) hr
                      · show Q4 Z p1 h0 n0 _ s₁.heap _
                        rw [e0]
                        exact ⟨congrArg some (congrArg _ (by simp only [f4, if_neg hc3_1, if_pos hc9_19, if_neg hc17_20, if_neg hc24_21, if_neg hc31_22, if_pos hc40_23, if_neg hc56_24, if_neg hc63_25, if_neg hc70_26, if_pos hc77_27])), N0, rfl⟩
                    · refine Goes.via (fun t k => XS.icmpNo X0.here hx rfl (hb hby d4_77) rfl (feq hc77_27).1 k) ?_
                      show Goes p e below (s₁.setTop (mkF m 80 #[.val (.int p1)] [])) _
                      refine Goes.via (fun t k => XS.iloadN X0.here hx rfl (hb hby d4_80) rfl k) ?_
                      show Goes p e below (s₁.setTop (mkF m 81 #[.val (.int p1)] [(.int p1)])) _
                      refine Goes.via (fun t k => XS.sipush X0.here hx rfl (hb hby d4_81) k) ?_
                      show Goes p e below (s₁.setTop (mkF m 84 #[.val (.int p1)] [(.int (12288 : Int32)), (.int p1)])) _
                      by_cases hc84_28 : p1 = (12288 : Int32)
                      · refine Goes.via (fun t k => XS.icmpYes X0.here hx rfl (pc0 := 84) (pc' := 93) rfl (hb hby d4_84) rfl (teq hc84_28).1 (by decide) (by decide) k) ?_
                        show Goes p e below (s₁.setTop (mkF m 93 #[.val (.int p1)] [])) _
                        refine Goes.via (fun t k => XS.iconst X0.here hx rfl (hb hby d4_93) k) ?_
                        show Goes p e below (s₁.setTop (mkF m 94 #[.val (.int p1)] [(.int (1 : Int32))])) _
                        obtain ⟨fs, hr, hrun, hended, hW, hsame⟩ := X0.leave (v := some (.int (1 : Int32))) (fun h => by rw [Bd.returns] at h; cases h)
                        refine ⟨_, _, ?_, hrun, hended, _, _, rfl, ?_, ⟨_, rfl⟩, hW, hsame.mono (by decide) (by decide)⟩
                        · exact retN X0 hx (t := .boolean) Bd.returns (by simp) (hb hby d4_94) hr
                        · show Q4 Z p1 h0 n0 _ s₁.heap _
                          rw [e0]
                          exact ⟨congrArg some (congrArg _ (by simp only [f4, if_neg hc3_1, if_pos hc9_19, if_neg hc17_20, if_neg hc24_21, if_neg hc31_22, if_pos hc40_23, if_neg hc56_24, if_neg hc63_25, if_neg hc70_26, if_neg hc77_27, if_pos hc84_28])), N0, rfl⟩
                      · refine Goes.via (fun t k => XS.icmpNo X0.here hx rfl (hb hby d4_84) rfl (feq hc84_28).1 k) ?_
                        show Goes p e below (s₁.setTop (mkF m 87 #[.val (.int p1)] [])) _
                        refine Goes.via (fun t k => XS.iloadN X0.here hx rfl (hb hby d4_87) rfl k) ?_
                        show Goes p e below (s₁.setTop (mkF m 88 #[.val (.int p1)] [(.int p1)])) _
                        refine Goes.via (fun t k => X0.ldcInt hx hown (mvT hZ (hw _ (List.mem_of_getElem? (i := 1) rfl))) (g := (mkF m 88 #[.val (.int p1)] [(.int p1)])) rfl (hb hby d4_88) _ k) ?_
                        show Goes p e below (s₁.setTop (mkF m 90 #[.val (.int p1)] [(.int (65279 : Int32)), (.int p1)])) _
                        by_cases hc90_29 : p1 = (65279 : Int32)
                        · refine Goes.via (fun t k => XS.icmpNo X0.here hx rfl (hb hby d4_90) rfl (teq hc90_29).2 k) ?_
                          show Goes p e below (s₁.setTop (mkF m 93 #[.val (.int p1)] [])) _
                          refine Goes.via (fun t k => XS.iconst X0.here hx rfl (hb hby d4_93) k) ?_
                          show Goes p e below (s₁.setTop (mkF m 94 #[.val (.int p1)] [(.int (1 : Int32))])) _
                          obtain ⟨fs, hr, hrun, hended, hW, hsame⟩ := X0.leave (v := some (.int (1 : Int32))) (fun h => by rw [Bd.returns] at h; cases h)
                          refine ⟨_, _, ?_, hrun, hended, _, _, rfl, ?_, ⟨_, rfl⟩, hW, hsame.mono (by decide) (by decide)⟩
                          · exact retN X0 hx (t := .boolean) Bd.returns (by simp) (hb hby d4_94) hr
                          · show Q4 Z p1 h0 n0 _ s₁.heap _
                            rw [e0]
                            exact ⟨congrArg some (congrArg _ (by simp only [f4, if_neg hc3_1, if_pos hc9_19, if_neg hc17_20, if_neg hc24_21, if_neg hc31_22, if_pos hc40_23, if_neg hc56_24, if_neg hc63_25, if_neg hc70_26, if_neg hc77_27, if_neg hc84_28, if_pos hc90_29])), N0, rfl⟩
                        · refine Goes.via (fun t k => XS.icmpYes X0.here hx rfl (pc0 := 90) (pc' := 95) rfl (hb hby d4_90) rfl (feq hc90_29).2 (by decide) (by decide) k) ?_
                          show Goes p e below (s₁.setTop (mkF m 95 #[.val (.int p1)] [])) _
                          refine Goes.via (fun t k => XS.iconst X0.here hx rfl (hb hby d4_95) k) ?_
                          show Goes p e below (s₁.setTop (mkF m 96 #[.val (.int p1)] [(.int (0 : Int32))])) _
                          obtain ⟨fs, hr, hrun, hended, hW, hsame⟩ := X0.leave (v := some (.int (0 : Int32))) (fun h => by rw [Bd.returns] at h; cases h)
                          refine ⟨_, _, ?_, hrun, hended, _, _, rfl, ?_, ⟨_, rfl⟩, hW, hsame.mono (by decide) (by decide)⟩
                          · exact retN X0 hx (t := .boolean) Bd.returns (by simp) (hb hby d4_96) hr
                          · show Q4 Z p1 h0 n0 _ s₁.heap _
                            rw [e0]
                            exact ⟨congrArg some (congrArg _ (by simp only [f4, if_neg hc3_1, if_pos hc9_19, if_neg hc17_20, if_neg hc24_21, if_neg hc31_22, if_pos hc40_23, if_neg hc56_24, if_neg hc63_25, if_neg hc70_26, if_neg hc77_27, if_neg hc84_28, if_neg hc90_29])), N0, rfl⟩
            · refine Goes.via (fun t k => XS.icmpNo X0.here hx rfl (hb hby d4_40) rfl (flt hc40_23).1 k) ?_
              show Goes p e below (s₁.setTop (mkF m 43 #[.val (.int p1)] [])) _
              refine Goes.via (fun t k => XS.iloadN X0.here hx rfl (hb hby d4_43) rfl k) ?_
              show Goes p e below (s₁.setTop (mkF m 44 #[.val (.int p1)] [(.int p1)])) _
              refine Goes.via (fun t k => XS.sipush X0.here hx rfl (hb hby d4_44) k) ?_
              show Goes p e below (s₁.setTop (mkF m 47 #[.val (.int p1)] [(.int (8202 : Int32)), (.int p1)])) _
              by_cases hc47_30 : (8202 : Int32) < p1
              · refine Goes.via (fun t k => XS.icmpYes X0.here hx rfl (pc0 := 47) (pc' := 52) rfl (hb hby d4_47) rfl (tlt hc47_30).2.2.1 (by decide) (by decide) k) ?_
                show Goes p e below (s₁.setTop (mkF m 52 #[.val (.int p1)] [])) _
                refine Goes.via (fun t k => XS.iloadN X0.here hx rfl (hb hby d4_52) rfl k) ?_
                show Goes p e below (s₁.setTop (mkF m 53 #[.val (.int p1)] [(.int p1)])) _
                refine Goes.via (fun t k => XS.sipush X0.here hx rfl (hb hby d4_53) k) ?_
                show Goes p e below (s₁.setTop (mkF m 56 #[.val (.int p1)] [(.int (8232 : Int32)), (.int p1)])) _
                by_cases hc56_31 : p1 = (8232 : Int32)
                · refine Goes.via (fun t k => XS.icmpYes X0.here hx rfl (pc0 := 56) (pc' := 93) rfl (hb hby d4_56) rfl (teq hc56_31).1 (by decide) (by decide) k) ?_
                  show Goes p e below (s₁.setTop (mkF m 93 #[.val (.int p1)] [])) _
                  refine Goes.via (fun t k => XS.iconst X0.here hx rfl (hb hby d4_93) k) ?_
                  show Goes p e below (s₁.setTop (mkF m 94 #[.val (.int p1)] [(.int (1 : Int32))])) _
                  obtain ⟨fs, hr, hrun, hended, hW, hsame⟩ := X0.leave (v := some (.int (1 : Int32))) (fun h => by rw [Bd.returns] at h; cases h)
                  refine ⟨_, _, ?_, hrun, hended, _, _, rfl, ?_, ⟨_, rfl⟩, hW, hsame.mono (by decide) (by decide)⟩
                  · exact retN X0 hx (t := .boolean) Bd.returns (by simp) (hb hby d4_94) hr
                  · show Q4 Z p1 h0 n0 _ s₁.heap _
                    rw [e0]
                    exact ⟨congrArg some (congrArg _ (by simp only [f4, if_neg hc3_1, if_pos hc9_19, if_neg hc17_20, if_neg hc24_21, if_neg hc31_22, if_neg hc40_23, if_pos hc47_30, if_pos hc56_31])), N0, rfl⟩
                · refine Goes.via (fun t k => XS.icmpNo X0.here hx rfl (hb hby d4_56) rfl (feq hc56_31).1 k) ?_
                  show Goes p e below (s₁.setTop (mkF m 59 #[.val (.int p1)] [])) _
                  refine Goes.via (fun t k => XS.iloadN X0.here hx rfl (hb hby d4_59) rfl k) ?_
                  show Goes p e below (s₁.setTop (mkF m 60 #[.val (.int p1)] [(.int p1)])) _
                  refine Goes.via (fun t k => XS.sipush X0.here hx rfl (hb hby d4_60) k) ?_
                  show Goes p e below (s₁.setTop (mkF m 63 #[.val (.int p1)] [(.int (8233 : Int32)), (.int p1)])) _
                  by_cases hc63_32 : p1 = (8233 : Int32)
                  · refine Goes.via (fun t k => XS.icmpYes X0.here hx rfl (pc0 := 63) (pc' := 93) rfl (hb hby d4_63) rfl (teq hc63_32).1 (by decide) (by decide) k) ?_
                    show Goes p e below (s₁.setTop (mkF m 93 #[.val (.int p1)] [])) _
                    refine Goes.via (fun t k => XS.iconst X0.here hx rfl (hb hby d4_93) k) ?_
                    show Goes p e below (s₁.setTop (mkF m 94 #[.val (.int p1)] [(.int (1 : Int32))])) _
                    obtain ⟨fs, hr, hrun, hended, hW, hsame⟩ := X0.leave (v := some (.int (1 : Int32))) (fun h => by rw [Bd.returns] at h; cases h)
                    refine ⟨_, _, ?_, hrun, hended, _, _, rfl, ?_, ⟨_, rfl⟩, hW, hsame.mono (by decide) (by decide)⟩
                    · exact retN X0 hx (t := .boolean) Bd.returns (by simp) (hb hby d4_94) hr
                    · show Q4 Z p1 h0 n0 _ s₁.heap _
                      rw [e0]
                      exact ⟨congrArg some (congrArg _ (by simp only [f4, if_neg hc3_1, if_pos hc9_19, if_neg hc17_20, if_neg hc24_21, if_neg hc31_22, if_neg hc40_23, if_pos hc47_30, if_neg hc56_31, if_pos hc63_32])), N0, rfl⟩
                  · refine Goes.via (fun t k => XS.icmpNo X0.here hx rfl (hb hby d4_63) rfl (feq hc63_32).1 k) ?_
                    show Goes p e below (s₁.setTop (mkF m 66 #[.val (.int p1)] [])) _
                    refine Goes.via (fun t k => XS.iloadN X0.here hx rfl (hb hby d4_66) rfl k) ?_
                    show Goes p e below (s₁.setTop (mkF m 67 #[.val (.int p1)] [(.int p1)])) _
                    refine Goes.via (fun t k => XS.sipush X0.here hx rfl (hb hby d4_67) k) ?_
                    show Goes p e below (s₁.setTop (mkF m 70 #[.val (.int p1)] [(.int (8239 : Int32)), (.int p1)])) _
                    by_cases hc70_33 : p1 = (8239 : Int32)
                    · refine Goes.via (fun t k => XS.icmpYes X0.here hx rfl (pc0 := 70) (pc' := 93) rfl (hb hby d4_70) rfl (teq hc70_33).1 (by decide) (by decide) k) ?_
                      show Goes p e below (s₁.setTop (mkF m 93 #[.val (.int p1)] [])) _
                      refine Goes.via (fun t k => XS.iconst X0.here hx rfl (hb hby d4_93) k) ?_
                      show Goes p e below (s₁.setTop (mkF m 94 #[.val (.int p1)] [(.int (1 : Int32))])) _
                      obtain ⟨fs, hr, hrun, hended, hW, hsame⟩ := X0.leave (v := some (.int (1 : Int32))) (fun h => by rw [Bd.returns] at h; cases h)
                      refine ⟨_, _, ?_, hrun, hended, _, _, rfl, ?_, ⟨_, rfl⟩, hW, hsame.mono (by decide) (by decide)⟩
                      · exact retN X0 hx (t := .boolean) Bd.returns (by simp) (hb hby d4_94) hr
                      · show Q4 Z p1 h0 n0 _ s₁.heap _
                        rw [e0]
                        exact ⟨congrArg some (congrArg _ (by simp only [f4, if_neg hc3_1, if_pos hc9_19, if_neg hc17_20, if_neg hc24_21, if_neg hc31_22, if_neg hc40_23, if_pos hc47_30, if_neg hc56_31, if_neg hc63_32, if_pos hc70_33])), N0, rfl⟩
                    · refine Goes.via (fun t k => XS.icmpNo X0.here hx rfl (hb hby d4_70) rfl (feq hc70_33).1 k) ?_
                      show Goes p e below (s₁.setTop (mkF m 73 #[.val (.int p1)] [])) _
                      refine Goes.via (fun t k => XS.iloadN X0.here hx rfl (hb hby d4_73) rfl k) ?_
                      show Goes p e below (s₁.setTop (mkF m 74 #[.val (.int p1)] [(.int p1)])) _
                      refine Goes.via (fun t k => XS.sipush X0.here hx rfl (hb hby d4_74) k) ?_
                      show Goes p e below (s₁.setTop (mkF m 77 #[.val (.int p1)] [(.int (8287 : Int32)), (.int p1)])) _
                      by_cases hc77_34 : p1 = (8287 : Int32)
                      · refine Goes.via (fun t k => XS.icmpYes X0.here hx rfl (pc0 := 77) (pc' := 93) rfl (hb hby d4_77) rfl (teq hc77_34).1 (by decide) (by decide) k) ?_
                        show Goes p e below (s₁.setTop (mkF m 93 #[.val (.int p1)] [])) _
                        refine Goes.via (fun t k => XS.iconst X0.here hx rfl (hb hby d4_93) k) ?_
                        show Goes p e below (s₁.setTop (mkF m 94 #[.val (.int p1)] [(.int (1 : Int32))])) _
                        obtain ⟨fs, hr, hrun, hended, hW, hsame⟩ := X0.leave (v := some (.int (1 : Int32))) (fun h => by rw [Bd.returns] at h; cases h)
                        refine ⟨_, _, ?_, hrun, hended, _, _, rfl, ?_, ⟨_, rfl⟩, hW, hsame.mono (by decide) (by decide)⟩
                        · exact retN X0 hx (t := .boolean) Bd.returns (by simp) (hb hby d4_94) hr
                        · show Q4 Z p1 h0 n0 _ s₁.heap _
                          rw [e0]
                          exact ⟨congrArg some (congrArg _ (by simp only [f4, if_neg hc3_1, if_pos hc9_19, if_neg hc17_20, if_neg hc24_21, if_neg hc31_22, if_neg hc40_23, if_pos hc47_30, if_neg hc56_31, if_neg hc63_32, if_neg hc70_33, if_pos hc77_34])), N0, rfl⟩
                      · refine Goes.via (fun t k => XS.icmpNo X0.here hx rfl (hb hby d4_77) rfl (feq hc77_34).1 k) ?_
                        show Goes p e below (s₁.setTop (mkF m 80 #[.val (.int p1)] [])) _
                        refine Goes.via (fun t k => XS.iloadN X0.here hx rfl (hb hby d4_80) rfl k) ?_
                        show Goes p e below (s₁.setTop (mkF m 81 #[.val (.int p1)] [(.int p1)])) _
                        refine Goes.via (fun t k => XS.sipush X0.here hx rfl (hb hby d4_81) k) ?_
                        show Goes p e below (s₁.setTop (mkF m 84 #[.val (.int p1)] [(.int (12288 : Int32)), (.int p1)])) _
                        by_cases hc84_35 : p1 = (12288 : Int32)
                        · refine Goes.via (fun t k => XS.icmpYes X0.here hx rfl (pc0 := 84) (pc' := 93) rfl (hb hby d4_84) rfl (teq hc84_35).1 (by decide) (by decide) k) ?_
                          show Goes p e below (s₁.setTop (mkF m 93 #[.val (.int p1)] [])) _
                          refine Goes.via (fun t k => XS.iconst X0.here hx rfl (hb hby d4_93) k) ?_
                          show Goes p e below (s₁.setTop (mkF m 94 #[.val (.int p1)] [(.int (1 : Int32))])) _
                          obtain ⟨fs, hr, hrun, hended, hW, hsame⟩ := X0.leave (v := some (.int (1 : Int32))) (fun h => by rw [Bd.returns] at h; cases h)
                          refine ⟨_, _, ?_, hrun, hended, _, _, rfl, ?_, ⟨_, rfl⟩, hW, hsame.mono (by decide) (by decide)⟩
                          · exact retN X0 hx (t := .boolean) Bd.returns (by simp) (hb hby d4_94) hr
                          · show Q4 Z p1 h0 n0 _ s₁.heap _
                            rw [e0]
                            exact ⟨congrArg some (congrArg _ (by simp only [f4, if_neg hc3_1, if_pos hc9_19, if_neg hc17_20, if_neg hc24_21, if_neg hc31_22, if_neg hc40_23, if_pos hc47_30, if_neg hc56_31, if_neg hc63_32, if_neg hc70_33, if_neg hc77_34, if_pos hc84_35])), N0, rfl⟩
                        · refine Goes.via (fun t k => XS.icmpNo X0.here hx rfl (hb hby d4_84) rfl (feq hc84_35).1 k) ?_
                          show Goes p e below (s₁.setTop (mkF m 87 #[.val (.int p1)] [])) _
                          refine Goes.via (fun t k => XS.iloadN X0.here hx rfl (hb hby d4_87) rfl k) ?_
                          show Goes p e below (s₁.setTop (mkF m 88 #[.val (.int p1)] [(.int p1)])) _
                          refine Goes.via (fun t k => X0.ldcInt hx hown (mvT hZ (hw _ (List.mem_of_getElem? (i := 1) rfl))) (g := (mkF m 88 #[.val (.int p1)] [(.int p1)])) rfl (hb hby d4_88) _ k) ?_
                          show Goes p e below (s₁.setTop (mkF m 90 #[.val (.int p1)] [(.int (65279 : Int32)), (.int p1)])) _
                          by_cases hc90_36 : p1 = (65279 : Int32)
                          · refine Goes.via (fun t k => XS.icmpNo X0.here hx rfl (hb hby d4_90) rfl (teq hc90_36).2 k) ?_
                            show Goes p e below (s₁.setTop (mkF m 93 #[.val (.int p1)] [])) _
                            refine Goes.via (fun t k => XS.iconst X0.here hx rfl (hb hby d4_93) k) ?_
                            show Goes p e below (s₁.setTop (mkF m 94 #[.val (.int p1)] [(.int (1 : Int32))])) _
                            obtain ⟨fs, hr, hrun, hended, hW, hsame⟩ := X0.leave (v := some (.int (1 : Int32))) (fun h => by rw [Bd.returns] at h; cases h)
                            refine ⟨_, _, ?_, hrun, hended, _, _, rfl, ?_, ⟨_, rfl⟩, hW, hsame.mono (by decide) (by decide)⟩
                            · exact retN X0 hx (t := .boolean) Bd.returns (by simp) (hb hby d4_94) hr
                            · show Q4 Z p1 h0 n0 _ s₁.heap _
                              rw [e0]
                              exact ⟨congrArg some (congrArg _ (by simp only [f4, if_neg hc3_1, if_pos hc9_19, if_neg hc17_20, if_neg hc24_21, if_neg hc31_22, if_neg hc40_23, if_pos hc47_30, if_neg hc56_31, if_neg hc63_32, if_neg hc70_33, if_neg hc77_34, if_neg hc84_35, if_pos hc90_36])), N0, rfl⟩
                          · refine Goes.via (fun t k => XS.icmpYes X0.here hx rfl (pc0 := 90) (pc' := 95) rfl (hb hby d4_90) rfl (feq hc90_36).2 (by decide) (by decide) k) ?_
                            show Goes p e below (s₁.setTop (mkF m 95 #[.val (.int p1)] [])) _
                            refine Goes.via (fun t k => XS.iconst X0.here hx rfl (hb hby d4_95) k) ?_
                            show Goes p e below (s₁.setTop (mkF m 96 #[.val (.int p1)] [(.int (0 : Int32))])) _
                            obtain ⟨fs, hr, hrun, hended, hW, hsame⟩ := X0.leave (v := some (.int (0 : Int32))) (fun h => by rw [Bd.returns] at h; cases h)
                            refine ⟨_, _, ?_, hrun, hended, _, _, rfl, ?_, ⟨_, rfl⟩, hW, hsame.mono (by decide) (by decide)⟩
                            · exact retN X0 hx (t := .boolean) Bd.returns (by simp) (hb hby d4_96) hr
                            · show Q4 Z p1 h0 n0 _ s₁.heap _
                              rw [e0]
                              exact ⟨congrArg some (congrArg _ (by simp only [f4, if_neg hc3_1, if_pos hc9_19, if_neg hc17_20, if_neg hc24_21, if_neg hc31_22, if_neg hc40_23, if_pos hc47_30, if_neg hc56_31, if_neg hc63_32, if_neg hc70_33, if_neg hc77_34, if_neg hc84_35, if_neg hc90_36])), N0, rfl⟩
              · refine Goes.via (fun t k => XS.icmpNo X0.here hx rfl (hb hby d4_47) rfl (flt hc47_30).2.2.1 k) ?_
                show Goes p e below (s₁.setTop (mkF m 50 #[.val (.int p1)] [])) _
                refine Goes.via (fun t k => XS.iconst X0.here hx rfl (hb hby d4_50) k) ?_
                show Goes p e below (s₁.setTop (mkF m 51 #[.val (.int p1)] [(.int (1 : Int32))])) _
                obtain ⟨fs, hr, hrun, hended, hW, hsame⟩ := X0.leave (v := some (.int (1 : Int32))) (fun h => by rw [Bd.returns] at h; cases h)
                refine ⟨_, _, ?_, hrun, hended, _, _, rfl, ?_, ⟨_, rfl⟩, hW, hsame.mono (by decide) (by decide)⟩
                · exact retN X0 hx (t := .boolean) Bd.returns (by simp) (hb hby d4_51) hr
                · show Q4 Z p1 h0 n0 _ s₁.heap _
                  rw [e0]
                  exact ⟨congrArg some (congrArg _ (by simp only [f4, if_neg hc3_1, if_pos hc9_19, if_neg hc17_20, if_neg hc24_21, if_neg hc31_22, if_neg hc40_23, if_neg hc47_30])), N0, rfl⟩
    · refine Goes.via (fun t k => XS.icmpNo X0.here hx rfl (hb hby d4_9) rfl (flt hc9_19).2.2.1 k) ?_
      show Goes p e below (s₁.setTop (mkF m 12 #[.val (.int p1)] [])) _
      refine Goes.via (fun t k => XS.iconst X0.here hx rfl (hb hby d4_12) k) ?_
      show Goes p e below (s₁.setTop (mkF m 13 #[.val (.int p1)] [(.int (1 : Int32))])) _
      obtain ⟨fs, hr, hrun, hended, hW, hsame⟩ := X0.leave (v := some (.int (1 : Int32))) (fun h => by rw [Bd.returns] at h; cases h)
      refine ⟨_, _, ?_, hrun, hended, _, _, rfl, ?_, ⟨_, rfl⟩, hW, hsame.mono (by decide) (by decide)⟩
      · exact retN X0 hx (t := .boolean) Bd.returns (by simp) (hb hby d4_13) hr
      · show Q4 Z p1 h0 n0 _ s₁.heap _
        rw [e0]
        exact ⟨congrArg some (congrArg _ (by simp only [f4, if_neg hc3_1, if_neg hc9_19])), N0, rfl⟩
def own_ints : List Int32 := [9, 13, 32, 32, 160, 160, 5760, 5760, 8192, 8202, 8232, 8233, 8239, 8239, 8287, 8287, 12288, 12288, 65279, 65279]
def own_at (j : Int32) : Int32 := own_ints.getD j.toNatClampNeg 0
theorem own_got (j : Int32) : own_list.getD j.toNatClampNeg (.int (0 : Int32)) = .int (own_at j) := by
  have e : own_list = own_ints.map Value.int := rfl
  rw [e]
  simp only [own_at, List.getD_eq_getElem?_getD, List.getElem?_map]
  cases own_ints[j.toNatClampNeg]? <;> rfl
theorem pn_0 : plainName "com/example/beforehand/beforehand/WhiteSpaceContainsPinLaw" = true := by first | (simp [plainName, overriddenIn]; done) | decide +kernel
theorem pd_0_0 : parseMethodDescriptor "(C)Z" = some ⟨[.char], some .boolean⟩ := by decide +kernel
theorem pd_0_1 : parseMethodDescriptor "(I)Z" = some ⟨[.int], some .boolean⟩ := by decide +kernel
theorem ef_0 (m : MethodId) (x0 : Int32) (x1 : Int32) : entryFrame m #[(.int x0), (.int x1)] maxLocals = mkF m 0 #[.val (.int x0), .val (.int x1), .unset, .unset, .unset] [] := by first | (simp [entryFrame, mkF, argsToLocals, Value.category, maxLocals]; done) | rfl
def v0_171_0 (p1 : Int32) : Int32 := ((p1 &&& (65535 : Int32)).toUInt32.toUInt16.toUInt32.toInt32)
def v0_190_1 (p1 : Int32) (r1 : Addr) : Int32 := (if (f1 (v0_171_0 p1) r1) = (f4 (p1 &&& (65535 : Int32))) then (1 : Int32) else (0 : Int32))
def v0_148_2 (p2 : Int32) : Int32 := ((((p2.toUInt32 >>> ((1 : Int32) &&& 31).toUInt32).toInt32) &&& (2147483647 : Int32)) % (20 : Int32))
def v0_160_3 (p1 : Int32) (p2 : Int32) : Int32 := ((own_at (v0_148_2 p2)) + ((p1 &&& (3 : Int32)) - (1 : Int32)))
def v0_171_4 (p1 : Int32) (p2 : Int32) : Int32 := ((v0_160_3 p1 p2).toUInt32.toUInt16.toUInt32.toInt32)
def v0_190_5 (p1 : Int32) (p2 : Int32) (r1 : Addr) : Int32 := (if (f1 (v0_171_4 p1 p2) r1) = (f4 (v0_160_3 p1 p2)) then (1 : Int32) else (0 : Int32))
def f0 (p1 : Int32) (p2 : Int32) (r1 : Addr) : Int32 :=
  if (p2 &&& (1 : Int32)) = (0 : Int32) then (nar .boolean (v0_190_1 p1 r1)) else
  (nar .boolean (v0_190_5 p1 p2 r1))
def Q0 (Z : State) (p1 : Int32) (p2 : Int32) (r1 : Addr) (h0 : Heap) (n0 : Nat) (v : Option Value) (h : Heap) (L : List Loc) : Prop := v = some (.int (f0 p1 p2 r1)) ∧ Fr n0 L ∧ True
theorem own_in (p2 : Int32) : ¬ v0_148_2 p2 < (0 : Int32) ∧ v0_148_2 p2 < (20 : Int32) := by
  have e0 : (0 : Int32).toInt = 0 := by decide
  have e3 : (20 : Int32).toInt = 20 := by decide
  have a1 := c_mask ((p2.toUInt32 >>> ((1 : Int32) &&& 31).toUInt32).toInt32) 2147483647 31 (by decide) (by decide)
  have a2 := (c_irem (((p2.toUInt32 >>> ((1 : Int32) &&& 31).toUInt32).toInt32) &&& 2147483647) 20 20 e3).1
  have hp : ((2 ^ 31 : Nat) : Int) = 2147483648 := by decide
  rw [hp] at a1
  have a4 := a2 (by omega)
  rw [Int32.lt_iff_toInt_lt, Int32.lt_iff_toInt_lt, e0, e3]
  show ¬ ((((p2.toUInt32 >>> ((1 : Int32) &&& 31).toUInt32).toInt32) &&& 2147483647) % 20).toInt < 0 ∧ ((((p2.toUInt32 >>> ((1 : Int32) &&& 31).toUInt32).toInt32) &&& 2147483647) % 20).toInt < 20
  omega

set_option maxRecDepth 65536 in
set_option maxHeartbeats 40000000 in
theorem rm0 (l : Launch) (Z : State) (a0 : Array Value) (hw : ∀ d ∈ tables_1, d.before a0 Z = true) (ws : List Jvm.Cond) (p1 : Int32) (p2 : Int32) (r1 : Addr) (kR : ClassId) (h0 : Heap) (n0 : Nat) (Z0 : n0 ≤ h0.size) (S1 : Sta Z h0 "com/example/beforehand/beforehand/WhiteSpace" "RANGES" "[I" (.ref r1)) (V1 : Arv Z h0 r1 kR .int (20 : Int32) own_list (.int (0 : Int32))) :
    MetFree l x (head1 (Jvm.Cond.code x code maxLocals ret :: ws) room_1) (fun a U => a = #[(.int p1), (.int p2)] ∧ Z.Warmed39 U.vm ∧ U.heap = h0) (fun _ _ _ _ _ => True) (fun _ U o U' => ∃ v L, o = .returned v ∧ Q0 Z p1 p2 r1 h0 n0 v U'.heap L ∧ FrameEnd U o U' L room_1.cells room_1.slots) := by
  refine MetFree.of_bodySF (plainFor_of_name pn_0) hisR ?_
  intro p e s m args below meth c s₁ Bd hml0 hP hK
  obtain ⟨rfl, hZ, hh⟩ := hP
  have hx := Bd.exec
  have hby := Bd.bytes
  have hml : c.maxLocals = 5 := hml0
  have hown : s.vm.findClass "com/example/beforehand/beforehand/WhiteSpaceContainsPinLaw" = some m.cls := findClass_of_methodNamed Bd.named
  have hnm := (name_of_methodNamed Bd.named Bd.method).1
  have X0 : Stand p l e room_1 s m #[(.int p1), (.int p2)] below meth c s₁ [] 0 0 := Stand.of_body Bd
  have e0 : s₁.heap = h0 := by rw [← hh, Bd.state]; rfl
  have N0 := Fr.nil n0
  refine Goes.via (next := s₁.setTop (mkF m 0 #[.val (.int p1), .val (.int p2), .unset, .unset, .unset] [])) (fun t k => castTop (ef_0 m p1 p2) k) ?_
  refine Goes.via (fun t k => XS.bipush X0.here hx rfl (hb hby at_0) k) ?_
  show Goes p e below (s₁.setTop (mkF m 2 #[.val (.int p1), .val (.int p2), .unset, .unset, .unset] [(.int (20 : Int32))])) _
  obtain ⟨T1, h1, k1, X1, e1, E1, A1, st1⟩ := newP X0 hx hZ (hw _ (List.mem_of_getElem? (i := 0) rfl)) e0 (g := (mkF m 2 #[.val (.int p1), .val (.int p2), .unset, .unset, .unset] [(.int (20 : Int32))])) rfl (hb hby at_2) rfl (by decide) (cap := 20) (by decide) (by decide) (by decide) (by decide)
  obtain ⟨b1, g1⟩ : ∃ z, z = h0.size := ⟨_, rfl⟩
  rw [← g1] at A1 st1
  have lt_r1_b1 : r1 < b1 := Nat.lt_of_lt_of_le V1.lt (Nat.le_of_eq g1.symm)
  have ge_b1 : n0 ≤ b1 := Nat.le_trans Z0 (Nat.le_of_eq g1.symm)
  have sz_b1 : h0.size ≤ b1 := Nat.le_trans (Keep.refl h0 []).1 (Nat.le_of_eq g1.symm)
  have F1_8 := V1.ext E1
  have F1_9 := S1.ext E1
  have K1 : Keep h0 h1 [] := (Keep.refl h0 []).ext E1
  have Z1 : n0 ≤ h1.size := Nat.le_trans Z0 E1.1
  have V1 : Arv Z h1 b1 k1 .int (20 : Int32) [(.int (0 : Int32)), (.int (0 : Int32)), (.int (0 : Int32)), (.int (0 : Int32)), (.int (0 : Int32)), (.int (0 : Int32)), (.int (0 : Int32)), (.int (0 : Int32)), (.int (0 : Int32)), (.int (0 : Int32)), (.int (0 : Int32)), (.int (0 : Int32)), (.int (0 : Int32)), (.int (0 : Int32)), (.int (0 : Int32)), (.int (0 : Int32)), (.int (0 : Int32)), (.int (0 : Int32)), (.int (0 : Int32)), (.int (0 : Int32))] (.int (0 : Int32)) := (Arv.new A1 (by decide)).pad (pad_rep [] (.int (0 : Int32)) 20)
  refine Goes.via st1 ?_
  show Goes p e below (T1.setTop (mkF m 4 #[.val (.int p1), .val (.int p2), .unset, .unset, .unset] [(.ref b1)])) _
  refine Goes.via (fun t k => XS.dup X1.here hx rfl (hb hby at_4) rfl rfl k) ?_
  show Goes p e below (T1.setTop (mkF m 5 #[.val (.int p1), .val (.int p2), .unset, .unset, .unset] [(.ref b1), (.ref b1)])) _
  refine Goes.via (fun t k => XS.iconst X1.here hx rfl (hb hby at_5) k) ?_
  show Goes p e below (T1.setTop (mkF m 6 #[.val (.int p1), .val (.int p2), .unset, .unset, .unset] [(.int (0 : Int32)), (.ref b1), (.ref b1)])) _
  refine Goes.via (fun t k => XS.bipush X1.here hx rfl (hb hby at_6) k) ?_
  show Goes p e below (T1.setTop (mkF m 8 #[.val (.int p1), .val (.int p2), .unset, .unset, .unset] [(.int (9 : Int32)), (.int (0 : Int32)), (.ref b1), (.ref b1)])) _
  obtain ⟨cl2, Ar2, qa2, Sa2, Na2, Ha2, Ga2⟩ := V1
  have hin2 : ¬ ((0 : Int32) < 0 ∨ cl2.slots.size ≤ ((0 : Int32)).toNatClampNeg) := inb_of Sa2 ⟨by decide, by decide⟩
  obtain ⟨T2, h2, X2, e2, W2, st2⟩ := stI X1 hx hZ e1 Ar2 (j := (0 : Int32)) hin2 (g := (mkF m 8 #[.val (.int p1), .val (.int p2), .unset, .unset, .unset] [(.int (9 : Int32)), (.int (0 : Int32)), (.ref b1), (.ref b1)])) rfl rfl (hb hby at_8)
  have V2 : Arv Z h2 b1 k1 .int (20 : Int32) [(.int (9 : Int32)), (.int (0 : Int32)), (.int (0 : Int32)), (.int (0 : Int32)), (.int (0 : Int32)), (.int (0 : Int32)), (.int (0 : Int32)), (.int (0 : Int32)), (.int (0 : Int32)), (.int (0 : Int32)), (.int (0 : Int32)), (.int (0 : Int32)), (.int (0 : Int32)), (.int (0 : Int32)), (.int (0 : Int32)), (.int (0 : Int32)), (.int (0 : Int32)), (.int (0 : Int32)), (.int (0 : Int32)), (.int (0 : Int32))] (.int (0 : Int32)) := Arv.set Ar2 qa2 Sa2 Na2 Ha2 Ga2 rfl W2 0 rfl (Nat.le_of_ble_eq_true rfl)
  have F2_25 := F1_8.other W2 (Nat.ne_of_lt lt_r1_b1)
  have F2_26 := F1_9.wr W2
  have K2 : Keep h0 h2 [] := K1.wr W2 (Or.inr sz_b1)
  have Z2 : n0 ≤ h2.size := Nat.le_trans Z1 (Keep.of_wr W2).1
  have N2 := Fr.snoc X2 N0 ge_b1
  refine Goes.via st2 ?_
  show Goes p e below (T2.setTop (mkF m 9 #[.val (.int p1), .val (.int p2), .unset, .unset, .unset] [(.ref b1)])) _
  refine Goes.via (fun t k => XS.dup X2.here hx rfl (hb hby at_9) rfl rfl k) ?_
  show Goes p e below (T2.setTop (mkF m 10 #[.val (.int p1), .val (.int p2), .unset, .unset, .unset] [(.ref b1), (.ref b1)])) _
  refine Goes.via (fun t k => XS.iconst X2.here hx rfl (hb hby at_10) k) ?_
  show Goes p e below (T2.setTop (mkF m 11 #[.val (.int p1), .val (.int p2), .unset, .unset, .unset] [(.int (1 : Int32)), (.ref b1), (.ref b1)])) _
  refine Goes.via (fun t k => XS.bipush X2.here hx rfl (hb hby at_11) k) ?_
  show Goes p e below (T2.setTop (mkF m 13 #[.val (.int p1), .val (.int p2), .unset, .unset, .unset] [(.int (13 : Int32)), (.int (1 : Int32)), (.ref b1), (.ref b1)])) _
  obtain ⟨cl3, Ar3, qa3, Sa3, Na3, Ha3, Ga3⟩ := V2
  have hin3 : ¬ ((1 : Int32) < 0 ∨ cl3.slots.size ≤ ((1 : Int32)).toNatClampNeg) := inb_of Sa3 ⟨by decide, by decide⟩
  obtain ⟨T3, h3, X3, e3, W3, st3⟩ := stI X2 hx hZ e2 Ar3 (j := (1 : Int32)) hin3 (g := (mkF m 13 #[.val (.int p1), .val (.int p2), .unset, .unset, .unset] [(.int (13 : Int32)), (.int (1 : Int32)), (.ref b1), (.ref b1)])) rfl rfl (hb hby at_13)
  have V3 : Arv Z h3 b1 k1 .int (20 : Int32) [(.int (9 : Int32)), (.int (13 : Int32)), (.int (0 : Int32)), (.int (0 : Int32)), (.int (0 : Int32)), (.int (0 : Int32)), (.int (0 : Int32)), (.int (0 : Int32)), (.int (0 : Int32)), (.int (0 : Int32)), (.int (0 : Int32)), (.int (0 : Int32)), (.int (0 : Int32)), (.int (0 : Int32)), (.int (0 : Int32)), (.int (0 : Int32)), (.int (0 : Int32)), (.int (0 : Int32)), (.int (0 : Int32)), (.int (0 : Int32))] (.int (0 : Int32)) := Arv.set Ar3 qa3 Sa3 Na3 Ha3 Ga3 rfl W3 1 rfl (Nat.le_of_ble_eq_true rfl)
  have F3_42 := F2_25.other W3 (Nat.ne_of_lt lt_r1_b1)
  have F3_43 := F2_26.wr W3
  have K3 : Keep h0 h3 [] := K2.wr W3 (Or.inr sz_b1)
  have Z3 : n0 ≤ h3.size := Nat.le_trans Z2 (Keep.of_wr W3).1
  have N3 := Fr.snoc X3 N2 ge_b1
  refine Goes.via st3 ?_
  show Goes p e below (T3.setTop (mkF m 14 #[.val (.int p1), .val (.int p2), .unset, .unset, .unset] [(.ref b1)])) _
  refine Goes.via (fun t k => XS.dup X3.here hx rfl (hb hby at_14) rfl rfl k) ?_
  show Goes p e below (T3.setTop (mkF m 15 #[.val (.int p1), .val (.int p2), .unset, .unset, .unset] [(.ref b1), (.ref b1)])) _
  refine Goes.via (fun t k => XS.iconst X3.here hx rfl (hb hby at_15) k) ?_
  show Goes p e below (T3.setTop (mkF m 16 #[.val (.int p1), .val (.int p2), .unset, .unset, .unset] [(.int (2 : Int32)), (.ref b1), (.ref b1)])) _
  refine Goes.via (fun t k => XS.bipush X3.here hx rfl (hb hby at_16) k) ?_
  show Goes p e below (T3.setTop (mkF m 18 #[.val (.int p1), .val (.int p2), .unset, .unset, .unset] [(.int (32 : Int32)), (.int (2 : Int32)), (.ref b1), (.ref b1)])) _
  obtain ⟨cl4, Ar4, qa4, Sa4, Na4, Ha4, Ga4⟩ := V3
  have hin4 : ¬ ((2 : Int32) < 0 ∨ cl4.slots.size ≤ ((2 : Int32)).toNatClampNeg) := inb_of Sa4 ⟨by decide, by decide⟩
  obtain ⟨T4, h4, X4, e4, W4, st4⟩ := stI X3 hx hZ e3 Ar4 (j := (2 : Int32)) hin4 (g := (mkF m 18 #[.val (.int p1), .val (.int p2), .unset, .unset, .unset] [(.int (32 : Int32)), (.int (2 : Int32)), (.ref b1), (.ref b1)])) rfl rfl (hb hby at_18)
  have V4 : Arv Z h4 b1 k1 .int (20 : Int32) [(.int (9 : Int32)), (.int (13 : Int32)), (.int (32 : Int32)), (.int (0 : Int32)), (.int (0 : Int32)), (.int (0 : Int32)), (.int (0 : Int32)), (.int (0 : Int32)), (.int (0 : Int32)), (.int (0 : Int32)), (.int (0 : Int32)), (.int (0 : Int32)), (.int (0 : Int32)), (.int (0 : Int32)), (.int (0 : Int32)), (.int (0 : Int32)), (.int (0 : Int32)), (.int (0 : Int32)), (.int (0 : Int32)), (.int (0 : Int32))] (.int (0 : Int32)) := Arv.set Ar4 qa4 Sa4 Na4 Ha4 Ga4 rfl W4 2 rfl (Nat.le_of_ble_eq_true rfl)
  have F4_59 := F3_42.other W4 (Nat.ne_of_lt lt_r1_b1)
  have F4_60 := F3_43.wr W4
  have K4 : Keep h0 h4 [] := K3.wr W4 (Or.inr sz_b1)
  have Z4 : n0 ≤ h4.size := Nat.le_trans Z3 (Keep.of_wr W4).1
  have N4 := Fr.snoc X4 N3 ge_b1
  refine Goes.via st4 ?_
  show Goes p e below (T4.setTop (mkF m 19 #[.val (.int p1), .val (.int p2), .unset, .unset, .unset] [(.ref b1)])) _
  refine Goes.via (fun t k => XS.dup X4.here hx rfl (hb hby at_19) rfl rfl k) ?_
  show Goes p e below (T4.setTop (mkF m 20 #[.val (.int p1), .val (.int p2), .unset, .unset, .unset] [(.ref b1), (.ref b1)])) _
  refine Goes.via (fun t k => XS.iconst X4.here hx rfl (hb hby at_20) k) ?_
  show Goes p e below (T4.setTop (mkF m 21 #[.val (.int p1), .val (.int p2), .unset, .unset, .unset] [(.int (3 : Int32)), (.ref b1), (.ref b1)])) _
  refine Goes.via (fun t k => XS.bipush X4.here hx rfl (hb hby at_21) k) ?_
  show Goes p e below (T4.setTop (mkF m 23 #[.val (.int p1), .val (.int p2), .unset, .unset, .unset] [(.int (32 : Int32)), (.int (3 : Int32)), (.ref b1), (.ref b1)])) _
  obtain ⟨cl5, Ar5, qa5, Sa5, Na5, Ha5, Ga5⟩ := V4
  have hin5 : ¬ ((3 : Int32) < 0 ∨ cl5.slots.size ≤ ((3 : Int32)).toNatClampNeg) := inb_of Sa5 ⟨by decide, by decide⟩
  obtain ⟨T5, h5, X5, e5, W5, st5⟩ := stI X4 hx hZ e4 Ar5 (j := (3 : Int32)) hin5 (g := (mkF m 23 #[.val (.int p1), .val (.int p2), .unset, .unset, .unset] [(.int (32 : Int32)), (.int (3 : Int32)), (.ref b1), (.ref b1)])) rfl rfl (hb hby at_23)
  have V5 : Arv Z h5 b1 k1 .int (20 : Int32) [(.int (9 : Int32)), (.int (13 : Int32)), (.int (32 : Int32)), (.int (32 : Int32)), (.int (0 : Int32)), (.int (0 : Int32)), (.int (0 : Int32)), (.int (0 : Int32)), (.int (0 : Int32)), (.int (0 : Int32)), (.int (0 : Int32)), (.int (0 : Int32)), (.int (0 : Int32)), (.int (0 : Int32)), (.int (0 : Int32)), (.int (0 : Int32)), (.int (0 : Int32)), (.int (0 : Int32)), (.int (0 : Int32)), (.int (0 : Int32))] (.int (0 : Int32)) := Arv.set Ar5 qa5 Sa5 Na5 Ha5 Ga5 rfl W5 3 rfl (Nat.le_of_ble_eq_true rfl)
  have F5_76 := F4_59.other W5 (Nat.ne_of_lt lt_r1_b1)
  have F5_77 := F4_60.wr W5
  have K5 : Keep h0 h5 [] := K4.wr W5 (Or.inr sz_b1)
  have Z5 : n0 ≤ h5.size := Nat.le_trans Z4 (Keep.of_wr W5).1
  have N5 := Fr.snoc X5 N4 ge_b1
  refine Goes.via st5 ?_
  show Goes p e below (T5.setTop (mkF m 24 #[.val (.int p1), .val (.int p2), .unset, .unset, .unset] [(.ref b1)])) _
  refine Goes.via (fun t k => XS.dup X5.here hx rfl (hb hby at_24) rfl rfl k) ?_
  show Goes p e below (T5.setTop (mkF m 25 #[.val (.int p1), .val (.int p2), .unset, .unset, .unset] [(.ref b1), (.ref b1)])) _
  refine Goes.via (fun t k => XS.iconst X5.here hx rfl (hb hby at_25) k) ?_
  show Goes p e below (T5.setTop (mkF m 26 #[.val (.int p1), .val (.int p2), .unset, .unset, .unset] [(.int (4 : Int32)), (.ref b1), (.ref b1)])) _
  refine Goes.via (fun t k => XS.sipush X5.here hx rfl (hb hby at_26) k) ?_
  show Goes p e below (T5.setTop (mkF m 29 #[.val (.int p1), .val (.int p2), .unset, .unset, .unset] [(.int (160 : Int32)), (.int (4 : Int32)), (.ref b1), (.ref b1)])) _
  obtain ⟨cl6, Ar6, qa6, Sa6, Na6, Ha6, Ga6⟩ := V5
  have hin6 : ¬ ((4 : Int32) < 0 ∨ cl6.slots.size ≤ ((4 : Int32)).toNatClampNeg) := inb_of Sa6 ⟨by decide, by decide⟩
  obtain ⟨T6, h6, X6, e6, W6, st6⟩ := stI X5 hx hZ e5 Ar6 (j := (4 : Int32)) hin6 (g := (mkF m 29 #[.val (.int p1), .val (.int p2), .unset, .unset, .unset] [(.int (160 : Int32)), (.int (4 : Int32)), (.ref b1), (.ref b1)])) rfl rfl (hb hby at_29)
  have V6 : Arv Z h6 b1 k1 .int (20 : Int32) [(.int (9 : Int32)), (.int (13 : Int32)), (.int (32 : Int32)), (.int (32 : Int32)), (.int (160 : Int32)), (.int (0 : Int32)), (.int (0 : Int32)), (.int (0 : Int32)), (.int (0 : Int32)), (.int (0 : Int32)), (.int (0 : Int32)), (.int (0 : Int32)), (.int (0 : Int32)), (.int (0 : Int32)), (.int (0 : Int32)), (.int (0 : Int32)), (.int (0 : Int32)), (.int (0 : Int32)), (.int (0 : Int32)), (.int (0 : Int32))] (.int (0 : Int32)) := Arv.set Ar6 qa6 Sa6 Na6 Ha6 Ga6 rfl W6 4 rfl (Nat.le_of_ble_eq_true rfl)
  have F6_93 := F5_76.other W6 (Nat.ne_of_lt lt_r1_b1)
  have F6_94 := F5_77.wr W6
  have K6 : Keep h0 h6 [] := K5.wr W6 (Or.inr sz_b1)
  have Z6 : n0 ≤ h6.size := Nat.le_trans Z5 (Keep.of_wr W6).1
  have N6 := Fr.snoc X6 N5 ge_b1
  refine Goes.via st6 ?_
  show Goes p e below (T6.setTop (mkF m 30 #[.val (.int p1), .val (.int p2), .unset, .unset, .unset] [(.ref b1)])) _
  refine Goes.via (fun t k => XS.dup X6.here hx rfl (hb hby at_30) rfl rfl k) ?_
  show Goes p e below (T6.setTop (mkF m 31 #[.val (.int p1), .val (.int p2), .unset, .unset, .unset] [(.ref b1), (.ref b1)])) _
  refine Goes.via (fun t k => XS.iconst X6.here hx rfl (hb hby at_31) k) ?_
  show Goes p e below (T6.setTop (mkF m 32 #[.val (.int p1), .val (.int p2), .unset, .unset, .unset] [(.int (5 : Int32)), (.ref b1), (.ref b1)])) _
  refine Goes.via (fun t k => XS.sipush X6.here hx rfl (hb hby at_32) k) ?_
  show Goes p e below (T6.setTop (mkF m 35 #[.val (.int p1), .val (.int p2), .unset, .unset, .unset] [(.int (160 : Int32)), (.int (5 : Int32)), (.ref b1), (.ref b1)])) _
  obtain ⟨cl7, Ar7, qa7, Sa7, Na7, Ha7, Ga7⟩ := V6
  have hin7 : ¬ ((5 : Int32) < 0 ∨ cl7.slots.size ≤ ((5 : Int32)).toNatClampNeg) := inb_of Sa7 ⟨by decide, by decide⟩
  obtain ⟨T7, h7, X7, e7, W7, st7⟩ := stI X6 hx hZ e6 Ar7 (j := (5 : Int32)) hin7 (g := (mkF m 35 #[.val (.int p1), .val (.int p2), .unset, .unset, .unset] [(.int (160 : Int32)), (.int (5 : Int32)), (.ref b1), (.ref b1)])) rfl rfl (hb hby at_35)
  have V7 : Arv Z h7 b1 k1 .int (20 : Int32) [(.int (9 : Int32)), (.int (13 : Int32)), (.int (32 : Int32)), (.int (32 : Int32)), (.int (160 : Int32)), (.int (160 : Int32)), (.int (0 : Int32)), (.int (0 : Int32)), (.int (0 : Int32)), (.int (0 : Int32)), (.int (0 : Int32)), (.int (0 : Int32)), (.int (0 : Int32)), (.int (0 : Int32)), (.int (0 : Int32)), (.int (0 : Int32)), (.int (0 : Int32)), (.int (0 : Int32)), (.int (0 : Int32)), (.int (0 : Int32))] (.int (0 : Int32)) := Arv.set Ar7 qa7 Sa7 Na7 Ha7 Ga7 rfl W7 5 rfl (Nat.le_of_ble_eq_true rfl)
  have F7_110 := F6_93.other W7 (Nat.ne_of_lt lt_r1_b1)
  have F7_111 := F6_94.wr W7
  have K7 : Keep h0 h7 [] := K6.wr W7 (Or.inr sz_b1)
  have Z7 : n0 ≤ h7.size := Nat.le_trans Z6 (Keep.of_wr W7).1
  have N7 := Fr.snoc X7 N6 ge_b1
  refine Goes.via st7 ?_
  show Goes p e below (T7.setTop (mkF m 36 #[.val (.int p1), .val (.int p2), .unset, .unset, .unset] [(.ref b1)])) _
  refine Goes.via (fun t k => XS.dup X7.here hx rfl (hb hby at_36) rfl rfl k) ?_
  show Goes p e below (T7.setTop (mkF m 37 #[.val (.int p1), .val (.int p2), .unset, .unset, .unset] [(.ref b1), (.ref b1)])) _
  refine Goes.via (fun t k => XS.bipush X7.here hx rfl (hb hby at_37) k) ?_
  show Goes p e below (T7.setTop (mkF m 39 #[.val (.int p1), .val (.int p2), .unset, .unset, .unset] [(.int (6 : Int32)), (.ref b1), (.ref b1)])) _
  refine Goes.via (fun t k => XS.sipush X7.here hx rfl (hb hby at_39) k) ?_
  show Goes p e below (T7.setTop (mkF m 42 #[.val (.int p1), .val (.int p2), .unset, .unset, .unset] [(.int (5760 : Int32)), (.int (6 : Int32)), (.ref b1), (.ref b1)])) _
  obtain ⟨cl8, Ar8, qa8, Sa8, Na8, Ha8, Ga8⟩ := V7
  have hin8 : ¬ ((6 : Int32) < 0 ∨ cl8.slots.size ≤ ((6 : Int32)).toNatClampNeg) := inb_of Sa8 ⟨by decide, by decide⟩
  obtain ⟨T8, h8, X8, e8, W8, st8⟩ := stI X7 hx hZ e7 Ar8 (j := (6 : Int32)) hin8 (g := (mkF m 42 #[.val (.int p1), .val (.int p2), .unset, .unset, .unset] [(.int (5760 : Int32)), (.int (6 : Int32)), (.ref b1), (.ref b1)])) rfl rfl (hb hby at_42)
  have V8 : Arv Z h8 b1 k1 .int (20 : Int32) [(.int (9 : Int32)), (.int (13 : Int32)), (.int (32 : Int32)), (.int (32 : Int32)), (.int (160 : Int32)), (.int (160 : Int32)), (.int (5760 : Int32)), (.int (0 : Int32)), (.int (0 : Int32)), (.int (0 : Int32)), (.int (0 : Int32)), (.int (0 : Int32)), (.int (0 : Int32)), (.int (0 : Int32)), (.int (0 : Int32)), (.int (0 : Int32)), (.int (0 : Int32)), (.int (0 : Int32)), (.int (0 : Int32)), (.int (0 : Int32))] (.int (0 : Int32)) := Arv.set Ar8 qa8 Sa8 Na8 Ha8 Ga8 rfl W8 6 rfl (Nat.le_of_ble_eq_true rfl)
  have F8_127 := F7_110.other W8 (Nat.ne_of_lt lt_r1_b1)
  have F8_128 := F7_111.wr W8
  have K8 : Keep h0 h8 [] := K7.wr W8 (Or.inr sz_b1)
  have Z8 : n0 ≤ h8.size := Nat.le_trans Z7 (Keep.of_wr W8).1
  have N8 := Fr.snoc X8 N7 ge_b1
  refine Goes.via st8 ?_
  show Goes p e below (T8.setTop (mkF m 43 #[.val (.int p1), .val (.int p2), .unset, .unset, .unset] [(.ref b1)])) _
  refine Goes.via (fun t k => XS.dup X8.here hx rfl (hb hby at_43) rfl rfl k) ?_
  show Goes p e below (T8.setTop (mkF m 44 #[.val (.int p1), .val (.int p2), .unset, .unset, .unset] [(.ref b1), (.ref b1)])) _
  refine Goes.via (fun t k => XS.bipush X8.here hx rfl (hb hby at_44) k) ?_
  show Goes p e below (T8.setTop (mkF m 46 #[.val (.int p1), .val (.int p2), .unset, .unset, .unset] [(.int (7 : Int32)), (.ref b1), (.ref b1)])) _
  refine Goes.via (fun t k => XS.sipush X8.here hx rfl (hb hby at_46) k) ?_
  show Goes p e below (T8.setTop (mkF m 49 #[.val (.int p1), .val (.int p2), .unset, .unset, .unset] [(.int (5760 : Int32)), (.int (7 : Int32)), (.ref b1), (.ref b1)])) _
  obtain ⟨cl9, Ar9, qa9, Sa9, Na9, Ha9, Ga9⟩ := V8
  have hin9 : ¬ ((7 : Int32) < 0 ∨ cl9.slots.size ≤ ((7 : Int32)).toNatClampNeg) := inb_of Sa9 ⟨by decide, by decide⟩
  obtain ⟨T9, h9, X9, e9, W9, st9⟩ := stI X8 hx hZ e8 Ar9 (j := (7 : Int32)) hin9 (g := (mkF m 49 #[.val (.int p1), .val (.int p2), .unset, .unset, .unset] [(.int (5760 : Int32)), (.int (7 : Int32)), (.ref b1), (.ref b1)])) rfl rfl (hb hby at_49)
  have V9 : Arv Z h9 b1 k1 .int (20 : Int32) [(.int (9 : Int32)), (.int (13 : Int32)), (.int (32 : Int32)), (.int (32 : Int32)), (.int (160 : Int32)), (.int (160 : Int32)), (.int (5760 : Int32)), (.int (5760 : Int32)), (.int (0 : Int32)), (.int (0 : Int32)), (.int (0 : Int32)), (.int (0 : Int32)), (.int (0 : Int32)), (.int (0 : Int32)), (.int (0 : Int32)), (.int (0 : Int32)), (.int (0 : Int32)), (.int (0 : Int32)), (.int (0 : Int32)), (.int (0 : Int32))] (.int (0 : Int32)) := Arv.set Ar9 qa9 Sa9 Na9 Ha9 Ga9 rfl W9 7 rfl (Nat.le_of_ble_eq_true rfl)
  have F9_144 := F8_127.other W9 (Nat.ne_of_lt lt_r1_b1)
  have F9_145 := F8_128.wr W9
  have K9 : Keep h0 h9 [] := K8.wr W9 (Or.inr sz_b1)
  have Z9 : n0 ≤ h9.size := Nat.le_trans Z8 (Keep.of_wr W9).1
  have N9 := Fr.snoc X9 N8 ge_b1
  refine Goes.via st9 ?_
  show Goes p e below (T9.setTop (mkF m 50 #[.val (.int p1), .val (.int p2), .unset, .unset, .unset] [(.ref b1)])) _
  refine Goes.via (fun t k => XS.dup X9.here hx rfl (hb hby at_50) rfl rfl k) ?_
  show Goes p e below (T9.setTop (mkF m 51 #[.val (.int p1), .val (.int p2), .unset, .unset, .unset] [(.ref b1), (.ref b1)])) _
  refine Goes.via (fun t k => XS.bipush X9.here hx rfl (hb hby at_51) k) ?_
  show Goes p e below (T9.setTop (mkF m 53 #[.val (.int p1), .val (.int p2), .unset, .unset, .unset] [(.int (8 : Int32)), (.ref b1), (.ref b1)])) _
  refine Goes.via (fun t k => XS.sipush X9.here hx rfl (hb hby at_53) k) ?_
  show Goes p e below (T9.setTop (mkF m 56 #[.val (.int p1), .val (.int p2), .unset, .unset, .unset] [(.int (8192 : Int32)), (.int (8 : Int32)), (.ref b1), (.ref b1)])) _
  obtain ⟨cl10, Ar10, qa10, Sa10, Na10, Ha10, Ga10⟩ := V9
  have hin10 : ¬ ((8 : Int32) < 0 ∨ cl10.slots.size ≤ ((8 : Int32)).toNatClampNeg) := inb_of Sa10 ⟨by decide, by decide⟩
  obtain ⟨T10, h10, X10, e10, W10, st10⟩ := stI X9 hx hZ e9 Ar10 (j := (8 : Int32)) hin10 (g := (mkF m 56 #[.val (.int p1), .val (.int p2), .unset, .unset, .unset] [(.int (8192 : Int32)), (.int (8 : Int32)), (.ref b1), (.ref b1)])) rfl rfl (hb hby at_56)
  have V10 : Arv Z h10 b1 k1 .int (20 : Int32) [(.int (9 : Int32)), (.int (13 : Int32)), (.int (32 : Int32)), (.int (32 : Int32)), (.int (160 : Int32)), (.int (160 : Int32)), (.int (5760 : Int32)), (.int (5760 : Int32)), (.int (8192 : Int32)), (.int (0 : Int32)), (.int (0 : Int32)), (.int (0 : Int32)), (.int (0 : Int32)), (.int (0 : Int32)), (.int (0 : Int32)), (.int (0 : Int32)), (.int (0 : Int32)), (.int (0 : Int32)), (.int (0 : Int32)), (.int (0 : Int32))] (.int (0 : Int32)) := Arv.set Ar10 qa10 Sa10 Na10 Ha10 Ga10 rfl W10 8 rfl (Nat.le_of_ble_eq_true rfl)
  have F10_161 := F9_144.other W10 (Nat.ne_of_lt lt_r1_b1)
  have F10_162 := F9_145.wr W10
  have K10 : Keep h0 h10 [] := K9.wr W10 (Or.inr sz_b1)
  have Z10 : n0 ≤ h10.size := Nat.le_trans Z9 (Keep.of_wr W10).1
  have N10 := Fr.snoc X10 N9 ge_b1
  refine Goes.via st10 ?_
  show Goes p e below (T10.setTop (mkF m 57 #[.val (.int p1), .val (.int p2), .unset, .unset, .unset] [(.ref b1)])) _
  refine Goes.via (fun t k => XS.dup X10.here hx rfl (hb hby at_57) rfl rfl k) ?_
  show Goes p e below (T10.setTop (mkF m 58 #[.val (.int p1), .val (.int p2), .unset, .unset, .unset] [(.ref b1), (.ref b1)])) _
  refine Goes.via (fun t k => XS.bipush X10.here hx rfl (hb hby at_58) k) ?_
  show Goes p e below (T10.setTop (mkF m 60 #[.val (.int p1), .val (.int p2), .unset, .unset, .unset] [(.int (9 : Int32)), (.ref b1), (.ref b1)])) _
  refine Goes.via (fun t k => XS.sipush X10.here hx rfl (hb hby at_60) k) ?_
  show Goes p e below (T10.setTop (mkF m 63 #[.val (.int p1), .val (.int p2), .unset, .unset, .unset] [(.int (8202 : Int32)), (.int (9 : Int32)), (.ref b1), (.ref b1)])) _
  obtain ⟨cl11, Ar11, qa11, Sa11, Na11, Ha11, Ga11⟩ := V10
  have hin11 : ¬ ((9 : Int32) < 0 ∨ cl11.slots.size ≤ ((9 : Int32)).toNatClampNeg) := inb_of Sa11 ⟨by decide, by decide⟩
  obtain ⟨T11, h11, X11, e11, W11, st11⟩ := stI X10 hx hZ e10 Ar11 (j := (9 : Int32)) hin11 (g := (mkF m 63 #[.val (.int p1), .val (.int p2), .unset, .unset, .unset] [(.int (8202 : Int32)), (.int (9 : Int32)), (.ref b1), (.ref b1)])) rfl rfl (hb hby at_63)
  have V11 : Arv Z h11 b1 k1 .int (20 : Int32) [(.int (9 : Int32)), (.int (13 : Int32)), (.int (32 : Int32)), (.int (32 : Int32)), (.int (160 : Int32)), (.int (160 : Int32)), (.int (5760 : Int32)), (.int (5760 : Int32)), (.int (8192 : Int32)), (.int (8202 : Int32)), (.int (0 : Int32)), (.int (0 : Int32)), (.int (0 : Int32)), (.int (0 : Int32)), (.int (0 : Int32)), (.int (0 : Int32)), (.int (0 : Int32)), (.int (0 : Int32)), (.int (0 : Int32)), (.int (0 : Int32))] (.int (0 : Int32)) := Arv.set Ar11 qa11 Sa11 Na11 Ha11 Ga11 rfl W11 9 rfl (Nat.le_of_ble_eq_true rfl)
  have F11_178 := F10_161.other W11 (Nat.ne_of_lt lt_r1_b1)
  have F11_179 := F10_162.wr W11
  have K11 : Keep h0 h11 [] := K10.wr W11 (Or.inr sz_b1)
  have Z11 : n0 ≤ h11.size := Nat.le_trans Z10 (Keep.of_wr W11).1
  have N11 := Fr.snoc X11 N10 ge_b1
  refine Goes.via st11 ?_
  show Goes p e below (T11.setTop (mkF m 64 #[.val (.int p1), .val (.int p2), .unset, .unset, .unset] [(.ref b1)])) _
  refine Goes.via (fun t k => XS.dup X11.here hx rfl (hb hby at_64) rfl rfl k) ?_
  show Goes p e below (T11.setTop (mkF m 65 #[.val (.int p1), .val (.int p2), .unset, .unset, .unset] [(.ref b1), (.ref b1)])) _
  refine Goes.via (fun t k => XS.bipush X11.here hx rfl (hb hby at_65) k) ?_
  show Goes p e below (T11.setTop (mkF m 67 #[.val (.int p1), .val (.int p2), .unset, .unset, .unset] [(.int (10 : Int32)), (.ref b1), (.ref b1)])) _
  refine Goes.via (fun t k => XS.sipush X11.here hx rfl (hb hby at_67) k) ?_
  show Goes p e below (T11.setTop (mkF m 70 #[.val (.int p1), .val (.int p2), .unset, .unset, .unset] [(.int (8232 : Int32)), (.int (10 : Int32)), (.ref b1), (.ref b1)])) _
  obtain ⟨cl12, Ar12, qa12, Sa12, Na12, Ha12, Ga12⟩ := V11
  have hin12 : ¬ ((10 : Int32) < 0 ∨ cl12.slots.size ≤ ((10 : Int32)).toNatClampNeg) := inb_of Sa12 ⟨by decide, by decide⟩
  obtain ⟨T12, h12, X12, e12, W12, st12⟩ := stI X11 hx hZ e11 Ar12 (j := (10 : Int32)) hin12 (g := (mkF m 70 #[.val (.int p1), .val (.int p2), .unset, .unset, .unset] [(.int (8232 : Int32)), (.int (10 : Int32)), (.ref b1), (.ref b1)])) rfl rfl (hb hby at_70)
  have V12 : Arv Z h12 b1 k1 .int (20 : Int32) [(.int (9 : Int32)), (.int (13 : Int32)), (.int (32 : Int32)), (.int (32 : Int32)), (.int (160 : Int32)), (.int (160 : Int32)), (.int (5760 : Int32)), (.int (5760 : Int32)), (.int (8192 : Int32)), (.int (8202 : Int32)), (.int (8232 : Int32)), (.int (0 : Int32)), (.int (0 : Int32)), (.int (0 : Int32)), (.int (0 : Int32)), (.int (0 : Int32)), (.int (0 : Int32)), (.int (0 : Int32)), (.int (0 : Int32)), (.int (0 : Int32))] (.int (0 : Int32)) := Arv.set Ar12 qa12 Sa12 Na12 Ha12 Ga12 rfl W12 10 rfl (Nat.le_of_ble_eq_true rfl)
  have F12_195 := F11_178.other W12 (Nat.ne_of_lt lt_r1_b1)
  have F12_196 := F11_179.wr W12
  have K12 : Keep h0 h12 [] := K11.wr W12 (Or.inr sz_b1)
  have Z12 : n0 ≤ h12.size := Nat.le_trans Z11 (Keep.of_wr W12).1
  have N12 := Fr.snoc X12 N11 ge_b1
  refine Goes.via st12 ?_
  show Goes p e below (T12.setTop (mkF m 71 #[.val (.int p1), .val (.int p2), .unset, .unset, .unset] [(.ref b1)])) _
  refine Goes.via (fun t k => XS.dup X12.here hx rfl (hb hby at_71) rfl rfl k) ?_
  show Goes p e below (T12.setTop (mkF m 72 #[.val (.int p1), .val (.int p2), .unset, .unset, .unset] [(.ref b1), (.ref b1)])) _
  refine Goes.via (fun t k => XS.bipush X12.here hx rfl (hb hby at_72) k) ?_
  show Goes p e below (T12.setTop (mkF m 74 #[.val (.int p1), .val (.int p2), .unset, .unset, .unset] [(.int (11 : Int32)), (.ref b1), (.ref b1)])) _
  refine Goes.via (fun t k => XS.sipush X12.here hx rfl (hb hby at_74) k) ?_
  show Goes p e below (T12.setTop (mkF m 77 #[.val (.int p1), .val (.int p2), .unset, .unset, .unset] [(.int (8233 : Int32)), (.int (11 : Int32)), (.ref b1), (.ref b1)])) _
  obtain ⟨cl13, Ar13, qa13, Sa13, Na13, Ha13, Ga13⟩ := V12
  have hin13 : ¬ ((11 : Int32) < 0 ∨ cl13.slots.size ≤ ((11 : Int32)).toNatClampNeg) := inb_of Sa13 ⟨by decide, by decide⟩
  obtain ⟨T13, h13, X13, e13, W13, st13⟩ := stI X12 hx hZ e12 Ar13 (j := (11 : Int32)) hin13 (g := (mkF m 77 #[.val (.int p1), .val (.int p2), .unset, .unset, .unset] [(.int (8233 : Int32)), (.int (11 : Int32)), (.ref b1), (.ref b1)])) rfl rfl (hb hby at_77)
  have V13 : Arv Z h13 b1 k1 .int (20 : Int32) [(.int (9 : Int32)), (.int (13 : Int32)), (.int (32 : Int32)), (.int (32 : Int32)), (.int (160 : Int32)), (.int (160 : Int32)), (.int (5760 : Int32)), (.int (5760 : Int32)), (.int (8192 : Int32)), (.int (8202 : Int32)), (.int (8232 : Int32)), (.int (8233 : Int32)), (.int (0 : Int32)), (.int (0 : Int32)), (.int (0 : Int32)), (.int (0 : Int32)), (.int (0 : Int32)), (.int (0 : Int32)), (.int (0 : Int32)), (.int (0 : Int32))] (.int (0 : Int32)) := Arv.set Ar13 qa13 Sa13 Na13 Ha13 Ga13 rfl W13 11 rfl (Nat.le_of_ble_eq_true rfl)
  have F13_212 := F12_195.other W13 (Nat.ne_of_lt lt_r1_b1)
  have F13_213 := F12_196.wr W13
  have K13 : Keep h0 h13 [] := K12.wr W13 (Or.inr sz_b1)
  have Z13 : n0 ≤ h13.size := Nat.le_trans Z12 (Keep.of_wr W13).1
  have N13 := Fr.snoc X13 N12 ge_b1
  refine Goes.via st13 ?_
  show Goes p e below (T13.setTop (mkF m 78 #[.val (.int p1), .val (.int p2), .unset, .unset, .unset] [(.ref b1)])) _
  refine Goes.via (fun t k => XS.dup X13.here hx rfl (hb hby at_78) rfl rfl k) ?_
  show Goes p e below (T13.setTop (mkF m 79 #[.val (.int p1), .val (.int p2), .unset, .unset, .unset] [(.ref b1), (.ref b1)])) _
  refine Goes.via (fun t k => XS.bipush X13.here hx rfl (hb hby at_79) k) ?_
  show Goes p e below (T13.setTop (mkF m 81 #[.val (.int p1), .val (.int p2), .unset, .unset, .unset] [(.int (12 : Int32)), (.ref b1), (.ref b1)])) _
  refine Goes.via (fun t k => XS.sipush X13.here hx rfl (hb hby at_81) k) ?_
  show Goes p e below (T13.setTop (mkF m 84 #[.val (.int p1), .val (.int p2), .unset, .unset, .unset] [(.int (8239 : Int32)), (.int (12 : Int32)), (.ref b1), (.ref b1)])) _
  obtain ⟨cl14, Ar14, qa14, Sa14, Na14, Ha14, Ga14⟩ := V13
  have hin14 : ¬ ((12 : Int32) < 0 ∨ cl14.slots.size ≤ ((12 : Int32)).toNatClampNeg) := inb_of Sa14 ⟨by decide, by decide⟩
  obtain ⟨T14, h14, X14, e14, W14, st14⟩ := stI X13 hx hZ e13 Ar14 (j := (12 : Int32)) hin14 (g := (mkF m 84 #[.val (.int p1), .val (.int p2), .unset, .unset, .unset] [(.int (8239 : Int32)), (.int (12 : Int32)), (.ref b1), (.ref b1)])) rfl rfl (hb hby at_84)
  have V14 : Arv Z h14 b1 k1 .int (20 : Int32) [(.int (9 : Int32)), (.int (13 : Int32)), (.int (32 : Int32)), (.int (32 : Int32)), (.int (160 : Int32)), (.int (160 : Int32)), (.int (5760 : Int32)), (.int (5760 : Int32)), (.int (8192 : Int32)), (.int (8202 : Int32)), (.int (8232 : Int32)), (.int (8233 : Int32)), (.int (8239 : Int32)), (.int (0 : Int32)), (.int (0 : Int32)), (.int (0 : Int32)), (.int (0 : Int32)), (.int (0 : Int32)), (.int (0 : Int32)), (.int (0 : Int32))] (.int (0 : Int32)) := Arv.set Ar14 qa14 Sa14 Na14 Ha14 Ga14 rfl W14 12 rfl (Nat.le_of_ble_eq_true rfl)
  have F14_229 := F13_212.other W14 (Nat.ne_of_lt lt_r1_b1)
  have F14_230 := F13_213.wr W14
  have K14 : Keep h0 h14 [] := K13.wr W14 (Or.inr sz_b1)
  have Z14 : n0 ≤ h14.size := Nat.le_trans Z13 (Keep.of_wr W14).1
  have N14 := Fr.snoc X14 N13 ge_b1
  refine Goes.via st14 ?_
  show Goes p e below (T14.setTop (mkF m 85 #[.val (.int p1), .val (.int p2), .unset, .unset, .unset] [(.ref b1)])) _
  refine Goes.via (fun t k => XS.dup X14.here hx rfl (hb hby at_85) rfl rfl k) ?_
  show Goes p e below (T14.setTop (mkF m 86 #[.val (.int p1), .val (.int p2), .unset, .unset, .unset] [(.ref b1), (.ref b1)])) _
  refine Goes.via (fun t k => XS.bipush X14.here hx rfl (hb hby at_86) k) ?_
  show Goes p e below (T14.setTop (mkF m 88 #[.val (.int p1), .val (.int p2), .unset, .unset, .unset] [(.int (13 : Int32)), (.ref b1), (.ref b1)])) _
  refine Goes.via (fun t k => XS.sipush X14.here hx rfl (hb hby at_88) k) ?_
  show Goes p e below (T14.setTop (mkF m 91 #[.val (.int p1), .val (.int p2), .unset, .unset, .unset] [(.int (8239 : Int32)), (.int (13 : Int32)), (.ref b1), (.ref b1)])) _
  obtain ⟨cl15, Ar15, qa15, Sa15, Na15, Ha15, Ga15⟩ := V14
  have hin15 : ¬ ((13 : Int32) < 0 ∨ cl15.slots.size ≤ ((13 : Int32)).toNatClampNeg) := inb_of Sa15 ⟨by decide, by decide⟩
  obtain ⟨T15, h15, X15, e15, W15, st15⟩ := stI X14 hx hZ e14 Ar15 (j := (13 : Int32)) hin15 (g := (mkF m 91 #[.val (.int p1), .val (.int p2), .unset, .unset, .unset] [(.int (8239 : Int32)), (.int (13 : Int32)), (.ref b1), (.ref b1)])) rfl rfl (hb hby at_91)
  have V15 : Arv Z h15 b1 k1 .int (20 : Int32) [(.int (9 : Int32)), (.int (13 : Int32)), (.int (32 : Int32)), (.int (32 : Int32)), (.int (160 : Int32)), (.int (160 : Int32)), (.int (5760 : Int32)), (.int (5760 : Int32)), (.int (8192 : Int32)), (.int (8202 : Int32)), (.int (8232 : Int32)), (.int (8233 : Int32)), (.int (8239 : Int32)), (.int (8239 : Int32)), (.int (0 : Int32)), (.int (0 : Int32)), (.int (0 : Int32)), (.int (0 : Int32)), (.int (0 : Int32)), (.int (0 : Int32))] (.int (0 : Int32)) := Arv.set Ar15 qa15 Sa15 Na15 Ha15 Ga15 rfl W15 13 rfl (Nat.le_of_ble_eq_true rfl)
  have F15_246 := F14_229.other W15 (Nat.ne_of_lt lt_r1_b1)
  have F15_247 := F14_230.wr W15
  have K15 : Keep h0 h15 [] := K14.wr W15 (Or.inr sz_b1)
  have Z15 : n0 ≤ h15.size := Nat.le_trans Z14 (Keep.of_wr W15).1
  have N15 := Fr.snoc X15 N14 ge_b1
  refine Goes.via st15 ?_
  show Goes p e below (T15.setTop (mkF m 92 #[.val (.int p1), .val (.int p2), .unset, .unset, .unset] [(.ref b1)])) _
  refine Goes.via (fun t k => XS.dup X15.here hx rfl (hb hby at_92) rfl rfl k) ?_
  show Goes p e below (T15.setTop (mkF m 93 #[.val (.int p1), .val (.int p2), .unset, .unset, .unset] [(.ref b1), (.ref b1)])) _
  refine Goes.via (fun t k => XS.bipush X15.here hx rfl (hb hby at_93) k) ?_
  show Goes p e below (T15.setTop (mkF m 95 #[.val (.int p1), .val (.int p2), .unset, .unset, .unset] [(.int (14 : Int32)), (.ref b1), (.ref b1)])) _
  refine Goes.via (fun t k => XS.sipush X15.here hx rfl (hb hby at_95) k) ?_
  show Goes p e below (T15.setTop (mkF m 98 #[.val (.int p1), .val (.int p2), .unset, .unset, .unset] [(.int (8287 : Int32)), (.int (14 : Int32)), (.ref b1), (.ref b1)])) _
  obtain ⟨cl16, Ar16, qa16, Sa16, Na16, Ha16, Ga16⟩ := V15
  have hin16 : ¬ ((14 : Int32) < 0 ∨ cl16.slots.size ≤ ((14 : Int32)).toNatClampNeg) := inb_of Sa16 ⟨by decide, by decide⟩
  obtain ⟨T16, h16, X16, e16, W16, st16⟩ := stI X15 hx hZ e15 Ar16 (j := (14 : Int32)) hin16 (g := (mkF m 98 #[.val (.int p1), .val (.int p2), .unset, .unset, .unset] [(.int (8287 : Int32)), (.int (14 : Int32)), (.ref b1), (.ref b1)])) rfl rfl (hb hby at_98)
  have V16 : Arv Z h16 b1 k1 .int (20 : Int32) [(.int (9 : Int32)), (.int (13 : Int32)), (.int (32 : Int32)), (.int (32 : Int32)), (.int (160 : Int32)), (.int (160 : Int32)), (.int (5760 : Int32)), (.int (5760 : Int32)), (.int (8192 : Int32)), (.int (8202 : Int32)), (.int (8232 : Int32)), (.int (8233 : Int32)), (.int (8239 : Int32)), (.int (8239 : Int32)), (.int (8287 : Int32)), (.int (0 : Int32)), (.int (0 : Int32)), (.int (0 : Int32)), (.int (0 : Int32)), (.int (0 : Int32))] (.int (0 : Int32)) := Arv.set Ar16 qa16 Sa16 Na16 Ha16 Ga16 rfl W16 14 rfl (Nat.le_of_ble_eq_true rfl)
  have F16_263 := F15_246.other W16 (Nat.ne_of_lt lt_r1_b1)
  have F16_264 := F15_247.wr W16
  have K16 : Keep h0 h16 [] := K15.wr W16 (Or.inr sz_b1)
  have Z16 : n0 ≤ h16.size := Nat.le_trans Z15 (Keep.of_wr W16).1
  have N16 := Fr.snoc X16 N15 ge_b1
  refine Goes.via st16 ?_
  show Goes p e below (T16.setTop (mkF m 99 #[.val (.int p1), .val (.int p2), .unset, .unset, .unset] [(.ref b1)])) _
  refine Goes.via (fun t k => XS.dup X16.here hx rfl (hb hby at_99) rfl rfl k) ?_
  show Goes p e below (T16.setTop (mkF m 100 #[.val (.int p1), .val (.int p2), .unset, .unset, .unset] [(.ref b1), (.ref b1)])) _
  refine Goes.via (fun t k => XS.bipush X16.here hx rfl (hb hby at_100) k) ?_
  show Goes p e below (T16.setTop (mkF m 102 #[.val (.int p1), .val (.int p2), .unset, .unset, .unset] [(.int (15 : Int32)), (.ref b1), (.ref b1)])) _
  refine Goes.via (fun t k => XS.sipush X16.here hx rfl (hb hby at_102) k) ?_
  show Goes p e below (T16.setTop (mkF m 105 #[.val (.int p1), .val (.int p2), .unset, .unset, .unset] [(.int (8287 : Int32)), (.int (15 : Int32)), (.ref b1), (.ref b1)])) _
  obtain ⟨cl17, Ar17, qa17, Sa17, Na17, Ha17, Ga17⟩ := V16
  have hin17 : ¬ ((15 : Int32) < 0 ∨ cl17.slots.size ≤ ((15 : Int32)).toNatClampNeg) := inb_of Sa17 ⟨by decide, by decide⟩
  obtain ⟨T17, h17, X17, e17, W17, st17⟩ := stI X16 hx hZ e16 Ar17 (j := (15 : Int32)) hin17 (g := (mkF m 105 #[.val (.int p1), .val (.int p2), .unset, .unset, .unset] [(.int (8287 : Int32)), (.int (15 : Int32)), (.ref b1), (.ref b1)])) rfl rfl (hb hby at_105)
  have V17 : Arv Z h17 b1 k1 .int (20 : Int32) [(.int (9 : Int32)), (.int (13 : Int32)), (.int (32 : Int32)), (.int (32 : Int32)), (.int (160 : Int32)), (.int (160 : Int32)), (.int (5760 : Int32)), (.int (5760 : Int32)), (.int (8192 : Int32)), (.int (8202 : Int32)), (.int (8232 : Int32)), (.int (8233 : Int32)), (.int (8239 : Int32)), (.int (8239 : Int32)), (.int (8287 : Int32)), (.int (8287 : Int32)), (.int (0 : Int32)), (.int (0 : Int32)), (.int (0 : Int32)), (.int (0 : Int32))] (.int (0 : Int32)) := Arv.set Ar17 qa17 Sa17 Na17 Ha17 Ga17 rfl W17 15 rfl (Nat.le_of_ble_eq_true rfl)
  have F17_280 := F16_263.other W17 (Nat.ne_of_lt lt_r1_b1)
  have F17_281 := F16_264.wr W17
  have K17 : Keep h0 h17 [] := K16.wr W17 (Or.inr sz_b1)
  have Z17 : n0 ≤ h17.size := Nat.le_trans Z16 (Keep.of_wr W17).1
  have N17 := Fr.snoc X17 N16 ge_b1
  refine Goes.via st17 ?_
  show Goes p e below (T17.setTop (mkF m 106 #[.val (.int p1), .val (.int p2), .unset, .unset, .unset] [(.ref b1)])) _
  refine Goes.via (fun t k => XS.dup X17.here hx rfl (hb hby at_106) rfl rfl k) ?_
  show Goes p e below (T17.setTop (mkF m 107 #[.val (.int p1), .val (.int p2), .unset, .unset, .unset] [(.ref b1), (.ref b1)])) _
  refine Goes.via (fun t k => XS.bipush X17.here hx rfl (hb hby at_107) k) ?_
  show Goes p e below (T17.setTop (mkF m 109 #[.val (.int p1), .val (.int p2), .unset, .unset, .unset] [(.int (16 : Int32)), (.ref b1), (.ref b1)])) _
  refine Goes.via (fun t k => XS.sipush X17.here hx rfl (hb hby at_109) k) ?_
  show Goes p e below (T17.setTop (mkF m 112 #[.val (.int p1), .val (.int p2), .unset, .unset, .unset] [(.int (12288 : Int32)), (.int (16 : Int32)), (.ref b1), (.ref b1)])) _
  obtain ⟨cl18, Ar18, qa18, Sa18, Na18, Ha18, Ga18⟩ := V17
  have hin18 : ¬ ((16 : Int32) < 0 ∨ cl18.slots.size ≤ ((16 : Int32)).toNatClampNeg) := inb_of Sa18 ⟨by decide, by decide⟩
  obtain ⟨T18, h18, X18, e18, W18, st18⟩ := stI X17 hx hZ e17 Ar18 (j := (16 : Int32)) hin18 (g := (mkF m 112 #[.val (.int p1), .val (.int p2), .unset, .unset, .unset] [(.int (12288 : Int32)), (.int (16 : Int32)), (.ref b1), (.ref b1)])) rfl rfl (hb hby at_112)
  have V18 : Arv Z h18 b1 k1 .int (20 : Int32) [(.int (9 : Int32)), (.int (13 : Int32)), (.int (32 : Int32)), (.int (32 : Int32)), (.int (160 : Int32)), (.int (160 : Int32)), (.int (5760 : Int32)), (.int (5760 : Int32)), (.int (8192 : Int32)), (.int (8202 : Int32)), (.int (8232 : Int32)), (.int (8233 : Int32)), (.int (8239 : Int32)), (.int (8239 : Int32)), (.int (8287 : Int32)), (.int (8287 : Int32)), (.int (12288 : Int32)), (.int (0 : Int32)), (.int (0 : Int32)), (.int (0 : Int32))] (.int (0 : Int32)) := Arv.set Ar18 qa18 Sa18 Na18 Ha18 Ga18 rfl W18 16 rfl (Nat.le_of_ble_eq_true rfl)
  have F18_297 := F17_280.other W18 (Nat.ne_of_lt lt_r1_b1)
  have F18_298 := F17_281.wr W18
  have K18 : Keep h0 h18 [] := K17.wr W18 (Or.inr sz_b1)
  have Z18 : n0 ≤ h18.size := Nat.le_trans Z17 (Keep.of_wr W18).1
  have N18 := Fr.snoc X18 N17 ge_b1
  refine Goes.via st18 ?_
  show Goes p e below (T18.setTop (mkF m 113 #[.val (.int p1), .val (.int p2), .unset, .unset, .unset] [(.ref b1)])) _
  refine Goes.via (fun t k => XS.dup X18.here hx rfl (hb hby at_113) rfl rfl k) ?_
  show Goes p e below (T18.setTop (mkF m 114 #[.val (.int p1), .val (.int p2), .unset, .unset, .unset] [(.ref b1), (.ref b1)])) _
  refine Goes.via (fun t k => XS.bipush X18.here hx rfl (hb hby at_114) k) ?_
  show Goes p e below (T18.setTop (mkF m 116 #[.val (.int p1), .val (.int p2), .unset, .unset, .unset] [(.int (17 : Int32)), (.ref b1), (.ref b1)])) _
  refine Goes.via (fun t k => XS.sipush X18.here hx rfl (hb hby at_116) k) ?_
  show Goes p e below (T18.setTop (mkF m 119 #[.val (.int p1), .val (.int p2), .unset, .unset, .unset] [(.int (12288 : Int32)), (.int (17 : Int32)), (.ref b1), (.ref b1)])) _
  obtain ⟨cl19, Ar19, qa19, Sa19, Na19, Ha19, Ga19⟩ := V18
  have hin19 : ¬ ((17 : Int32) < 0 ∨ cl19.slots.size ≤ ((17 : Int32)).toNatClampNeg) := inb_of Sa19 ⟨by decide, by decide⟩
  obtain ⟨T19, h19, X19, e19, W19, st19⟩ := stI X18 hx hZ e18 Ar19 (j := (17 : Int32)) hin19 (g := (mkF m 119 #[.val (.int p1), .val (.int p2), .unset, .unset, .unset] [(.int (12288 : Int32)), (.int (17 : Int32)), (.ref b1), (.ref b1)])) rfl rfl (hb hby at_119)
  have V19 : Arv Z h19 b1 k1 .int (20 : Int32) [(.int (9 : Int32)), (.int (13 : Int32)), (.int (32 : Int32)), (.int (32 : Int32)), (.int (160 : Int32)), (.int (160 : Int32)), (.int (5760 : Int32)), (.int (5760 : Int32)), (.int (8192 : Int32)), (.int (8202 : Int32)), (.int (8232 : Int32)), (.int (8233 : Int32)), (.int (8239 : Int32)), (.int (8239 : Int32)), (.int (8287 : Int32)), (.int (8287 : Int32)), (.int (12288 : Int32)), (.int (12288 : Int32)), (.int (0 : Int32)), (.int (0 : Int32))] (.int (0 : Int32)) := Arv.set Ar19 qa19 Sa19 Na19 Ha19 Ga19 rfl W19 17 rfl (Nat.le_of_ble_eq_true rfl)
  have F19_314 := F18_297.other W19 (Nat.ne_of_lt lt_r1_b1)
  have F19_315 := F18_298.wr W19
  have K19 : Keep h0 h19 [] := K18.wr W19 (Or.inr sz_b1)
  have Z19 : n0 ≤ h19.size := Nat.le_trans Z18 (Keep.of_wr W19).1
  have N19 := Fr.snoc X19 N18 ge_b1
  refine Goes.via st19 ?_
  show Goes p e below (T19.setTop (mkF m 120 #[.val (.int p1), .val (.int p2), .unset, .unset, .unset] [(.ref b1)])) _
  refine Goes.via (fun t k => XS.dup X19.here hx rfl (hb hby at_120) rfl rfl k) ?_
  show Goes p e below (T19.setTop (mkF m 121 #[.val (.int p1), .val (.int p2), .unset, .unset, .unset] [(.ref b1), (.ref b1)])) _
  refine Goes.via (fun t k => XS.bipush X19.here hx rfl (hb hby at_121) k) ?_
  show Goes p e below (T19.setTop (mkF m 123 #[.val (.int p1), .val (.int p2), .unset, .unset, .unset] [(.int (18 : Int32)), (.ref b1), (.ref b1)])) _
  refine Goes.via (fun t k => X19.ldcInt hx hown (mvT hZ (hw _ (List.mem_of_getElem? (i := 1) rfl))) (g := (mkF m 123 #[.val (.int p1), .val (.int p2), .unset, .unset, .unset] [(.int (18 : Int32)), (.ref b1), (.ref b1)])) rfl (hb hby at_123) _ k) ?_
  show Goes p e below (T19.setTop (mkF m 125 #[.val (.int p1), .val (.int p2), .unset, .unset, .unset] [(.int (65279 : Int32)), (.int (18 : Int32)), (.ref b1), (.ref b1)])) _
  obtain ⟨cl20, Ar20, qa20, Sa20, Na20, Ha20, Ga20⟩ := V19
  have hin20 : ¬ ((18 : Int32) < 0 ∨ cl20.slots.size ≤ ((18 : Int32)).toNatClampNeg) := inb_of Sa20 ⟨by decide, by decide⟩
  obtain ⟨T20, h20, X20, e20, W20, st20⟩ := stI X19 hx hZ e19 Ar20 (j := (18 : Int32)) hin20 (g := (mkF m 125 #[.val (.int p1), .val (.int p2), .unset, .unset, .unset] [(.int (65279 : Int32)), (.int (18 : Int32)), (.ref b1), (.ref b1)])) rfl rfl (hb hby at_125)
  have V20 : Arv Z h20 b1 k1 .int (20 : Int32) [(.int (9 : Int32)), (.int (13 : Int32)), (.int (32 : Int32)), (.int (32 : Int32)), (.int (160 : Int32)), (.int (160 : Int32)), (.int (5760 : Int32)), (.int (5760 : Int32)), (.int (8192 : Int32)), (.int (8202 : Int32)), (.int (8232 : Int32)), (.int (8233 : Int32)), (.int (8239 : Int32)), (.int (8239 : Int32)), (.int (8287 : Int32)), (.int (8287 : Int32)), (.int (12288 : Int32)), (.int (12288 : Int32)), (.int (65279 : Int32)), (.int (0 : Int32))] (.int (0 : Int32)) := Arv.set Ar20 qa20 Sa20 Na20 Ha20 Ga20 rfl W20 18 rfl (Nat.le_of_ble_eq_true rfl)
  have F20_331 := F19_314.other W20 (Nat.ne_of_lt lt_r1_b1)
  have F20_332 := F19_315.wr W20
  have K20 : Keep h0 h20 [] := K19.wr W20 (Or.inr sz_b1)
  have Z20 : n0 ≤ h20.size := Nat.le_trans Z19 (Keep.of_wr W20).1
  have N20 := Fr.snoc X20 N19 ge_b1
  refine Goes.via st20 ?_
  show Goes p e below (T20.setTop (mkF m 126 #[.val (.int p1), .val (.int p2), .unset, .unset, .unset] [(.ref b1)])) _
  refine Goes.via (fun t k => XS.dup X20.here hx rfl (hb hby at_126) rfl rfl k) ?_
  show Goes p e below (T20.setTop (mkF m 127 #[.val (.int p1), .val (.int p2), .unset, .unset, .unset] [(.ref b1), (.ref b1)])) _
  refine Goes.via (fun t k => XS.bipush X20.here hx rfl (hb hby at_127) k) ?_
  show Goes p e below (T20.setTop (mkF m 129 #[.val (.int p1), .val (.int p2), .unset, .unset, .unset] [(.int (19 : Int32)), (.ref b1), (.ref b1)])) _
  refine Goes.via (fun t k => X20.ldcInt hx hown (mvT hZ (hw _ (List.mem_of_getElem? (i := 1) rfl))) (g := (mkF m 129 #[.val (.int p1), .val (.int p2), .unset, .unset, .unset] [(.int (19 : Int32)), (.ref b1), (.ref b1)])) rfl (hb hby at_129) _ k) ?_
  show Goes p e below (T20.setTop (mkF m 131 #[.val (.int p1), .val (.int p2), .unset, .unset, .unset] [(.int (65279 : Int32)), (.int (19 : Int32)), (.ref b1), (.ref b1)])) _
  obtain ⟨cl21, Ar21, qa21, Sa21, Na21, Ha21, Ga21⟩ := V20
  have hin21 : ¬ ((19 : Int32) < 0 ∨ cl21.slots.size ≤ ((19 : Int32)).toNatClampNeg) := inb_of Sa21 ⟨by decide, by decide⟩
  obtain ⟨T21, h21, X21, e21, W21, st21⟩ := stI X20 hx hZ e20 Ar21 (j := (19 : Int32)) hin21 (g := (mkF m 131 #[.val (.int p1), .val (.int p2), .unset, .unset, .unset] [(.int (65279 : Int32)), (.int (19 : Int32)), (.ref b1), (.ref b1)])) rfl rfl (hb hby at_131)
  have V21 : Arv Z h21 b1 k1 .int (20 : Int32) [(.int (9 : Int32)), (.int (13 : Int32)), (.int (32 : Int32)), (.int (32 : Int32)), (.int (160 : Int32)), (.int (160 : Int32)), (.int (5760 : Int32)), (.int (5760 : Int32)), (.int (8192 : Int32)), (.int (8202 : Int32)), (.int (8232 : Int32)), (.int (8233 : Int32)), (.int (8239 : Int32)), (.int (8239 : Int32)), (.int (8287 : Int32)), (.int (8287 : Int32)), (.int (12288 : Int32)), (.int (12288 : Int32)), (.int (65279 : Int32)), (.int (65279 : Int32))] (.int (0 : Int32)) := Arv.set Ar21 qa21 Sa21 Na21 Ha21 Ga21 rfl W21 19 rfl (Nat.le_of_ble_eq_true rfl)
  have F21_348 := F20_331.other W21 (Nat.ne_of_lt lt_r1_b1)
  have F21_349 := F20_332.wr W21
  have K21 : Keep h0 h21 [] := K20.wr W21 (Or.inr sz_b1)
  have Z21 : n0 ≤ h21.size := Nat.le_trans Z20 (Keep.of_wr W21).1
  have N21 := Fr.snoc X21 N20 ge_b1
  refine Goes.via st21 ?_
  show Goes p e below (T21.setTop (mkF m 132 #[.val (.int p1), .val (.int p2), .unset, .unset, .unset] [(.ref b1)])) _
  refine Goes.via (fun t k => XS.astoreN X21.here hx rfl (hb hby at_132) rfl rfl (l' := #[.val (.int p1), .val (.int p2), .val (.ref b1), .unset, .unset]) rfl k) ?_
  show Goes p e below (T21.setTop (mkF m 133 #[.val (.int p1), .val (.int p2), .val (.ref b1), .unset, .unset] [])) _
  refine Goes.via (fun t k => XS.iloadN X21.here hx rfl (hb hby at_133) rfl k) ?_
  show Goes p e below (T21.setTop (mkF m 134 #[.val (.int p1), .val (.int p2), .val (.ref b1), .unset, .unset] [(.int p2)])) _
  refine Goes.via (fun t k => XS.iconst X21.here hx rfl (hb hby at_134) k) ?_
  show Goes p e below (T21.setTop (mkF m 135 #[.val (.int p1), .val (.int p2), .val (.ref b1), .unset, .unset] [(.int (1 : Int32)), (.int p2)])) _
  refine Goes.via (fun t k => XS.iand X21.here hx rfl (hb hby at_135) rfl k) ?_
  show Goes p e below (T21.setTop (mkF m 136 #[.val (.int p1), .val (.int p2), .val (.ref b1), .unset, .unset] [(.int (p2 &&& (1 : Int32)))])) _
  by_cases hc136_22 : (p2 &&& (1 : Int32)) = (0 : Int32)
  · refine Goes.via (fun t k => XS.ifYes X21.here hx rfl (pc0 := 136) (pc' := 164) rfl (hb hby at_136) rfl ((if0 _ _).trans (teq hc136_22).1) (by decide) (by decide) k) ?_
    show Goes p e below (T21.setTop (mkF m 164 #[.val (.int p1), .val (.int p2), .val (.ref b1), .unset, .unset] [])) _
    refine Goes.via (fun t k => XS.iloadN X21.here hx rfl (hb hby at_164) rfl k) ?_
    show Goes p e below (T21.setTop (mkF m 165 #[.val (.int p1), .val (.int p2), .val (.ref b1), .unset, .unset] [(.int p1)])) _
    refine Goes.via (fun t k => X21.ldcInt hx hown (mvT hZ (hw _ (List.mem_of_getElem? (i := 20) rfl))) (g := (mkF m 165 #[.val (.int p1), .val (.int p2), .val (.ref b1), .unset, .unset] [(.int p1)])) rfl (hb hby at_165) _ k) ?_
    show Goes p e below (T21.setTop (mkF m 167 #[.val (.int p1), .val (.int p2), .val (.ref b1), .unset, .unset] [(.int (65535 : Int32)), (.int p1)])) _
    refine Goes.via (fun t k => XS.iand X21.here hx rfl (hb hby at_167) rfl k) ?_
    show Goes p e below (T21.setTop (mkF m 168 #[.val (.int p1), .val (.int p2), .val (.ref b1), .unset, .unset] [(.int (p1 &&& (65535 : Int32)))])) _
    refine Goes.via (fun t k => XS.istoreN X21.here hx rfl (hb hby at_168) rfl (l' := #[.val (.int p1), .val (.int p2), .val (.ref b1), .val (.int (p1 &&& (65535 : Int32))), .unset]) rfl k) ?_
    show Goes p e below (T21.setTop (mkF m 169 #[.val (.int p1), .val (.int p2), .val (.ref b1), .val (.int (p1 &&& (65535 : Int32))), .unset] [])) _
    refine Goes.via (fun t k => XS.iloadN X21.here hx rfl (hb hby at_169) rfl k) ?_
    show Goes p e below (T21.setTop (mkF m 170 #[.val (.int p1), .val (.int p2), .val (.ref b1), .val (.int (p1 &&& (65535 : Int32))), .unset] [(.int (p1 &&& (65535 : Int32)))])) _
    refine Goes.via (fun t k => XS.i2c X21.here hx rfl (hb hby at_170) rfl k) ?_
    show Goes p e below (T21.setTop (mkF m 171 #[.val (.int p1), .val (.int p2), .val (.ref b1), .val (.int (p1 &&& (65535 : Int32))), .unset] [(.int ((p1 &&& (65535 : Int32)).toUInt32.toUInt16.toUInt32.toInt32))])) _
    refine Goes.via (fun t k => XS.istore X21.here hx rfl (hb hby at_171) rfl (l' := #[.val (.int p1), .val (.int p2), .val (.ref b1), .val (.int (p1 &&& (65535 : Int32))), .val (.int (v0_171_0 p1))]) rfl k) ?_
    show Goes p e below (T21.setTop (mkF m 173 #[.val (.int p1), .val (.int p2), .val (.ref b1), .val (.int (p1 &&& (65535 : Int32))), .val (.int (v0_171_0 p1))] [])) _
    refine Goes.via (fun t k => XS.iload X21.here hx rfl (hb hby at_173) rfl k) ?_
    show Goes p e below (T21.setTop (mkF m 175 #[.val (.int p1), .val (.int p2), .val (.ref b1), .val (.int (p1 &&& (65535 : Int32))), .val (.int (v0_171_0 p1))] [(.int (v0_171_0 p1))])) _
    try clear st21; try clear W21; try clear hin21; try clear Ga21; try clear Ha21; try clear Na21; try clear Sa21; try clear qa21; try clear Ar21; try clear cl21; try clear N20; try clear Z20
    try clear K20; try clear F20_332; try clear F20_331; try clear V20; try clear st20; try clear W20; try clear e20; try clear X20; try clear h20; try clear T20; try clear hin20; try clear Ga20
    try clear Ha20; try clear Na20; try clear Sa20; try clear qa20; try clear Ar20; try clear cl20; try clear N19; try clear Z19; try clear K19; try clear F19_315; try clear F19_314; try clear V19
    try clear st19; try clear W19; try clear e19; try clear X19; try clear h19; try clear T19; try clear hin19; try clear Ga19; try clear Ha19; try clear Na19; try clear Sa19; try clear qa19
    try clear Ar19; try clear cl19; try clear N18; try clear Z18; try clear K18; try clear F18_298; try clear F18_297; try clear V18; try clear st18; try clear W18; try clear e18; try clear X18
    try clear h18; try clear T18; try clear hin18; try clear Ga18; try clear Ha18; try clear Na18; try clear Sa18; try clear qa18; try clear Ar18; try clear cl18; try clear N17; try clear Z17
    try clear K17; try clear F17_281; try clear F17_280; try clear V17; try clear st17; try clear W17; try clear e17; try clear X17; try clear h17; try clear T17; try clear hin17; try clear Ga17
    try clear Ha17; try clear Na17; try clear Sa17; try clear qa17; try clear Ar17; try clear cl17; try clear N16; try clear Z16; try clear K16; try clear F16_264; try clear F16_263; try clear V16
    try clear st16; try clear W16; try clear e16; try clear X16; try clear h16; try clear T16; try clear hin16; try clear Ga16; try clear Ha16; try clear Na16; try clear Sa16; try clear qa16
    try clear Ar16; try clear cl16; try clear N15; try clear Z15; try clear K15; try clear F15_247; try clear F15_246; try clear V15; try clear st15; try clear W15; try clear e15; try clear X15
    try clear h15; try clear T15; try clear hin15; try clear Ga15; try clear Ha15; try clear Na15; try clear Sa15; try clear qa15; try clear Ar15; try clear cl15; try clear N14; try clear Z14
    try clear K14; try clear F14_230; try clear F14_229; try clear V14; try clear st14; try clear W14; try clear e14; try clear X14; try clear h14; try clear T14; try clear hin14; try clear Ga14
    try clear Ha14; try clear Na14; try clear Sa14; try clear qa14; try clear Ar14; try clear cl14; try clear N13; try clear Z13; try clear K13; try clear F13_213; try clear F13_212; try clear V13
    try clear st13; try clear W13; try clear e13; try clear X13; try clear h13; try clear T13; try clear hin13; try clear Ga13; try clear Ha13; try clear Na13; try clear Sa13; try clear qa13
    try clear Ar13; try clear cl13; try clear N12; try clear Z12; try clear K12; try clear F12_196; try clear F12_195; try clear V12; try clear st12; try clear W12; try clear e12; try clear X12
    try clear h12; try clear T12; try clear hin12; try clear Ga12; try clear Ha12; try clear Na12; try clear Sa12; try clear qa12; try clear Ar12; try clear cl12; try clear N11; try clear Z11
    try clear K11; try clear F11_179; try clear F11_178; try clear V11; try clear st11; try clear W11; try clear e11; try clear X11; try clear h11; try clear T11; try clear hin11; try clear Ga11
    try clear Ha11; try clear Na11; try clear Sa11; try clear qa11; try clear Ar11; try clear cl11; try clear N10; try clear Z10; try clear K10; try clear F10_162; try clear F10_161; try clear V10
    try clear st10; try clear W10; try clear e10; try clear X10; try clear h10; try clear T10; try clear hin10; try clear Ga10; try clear Ha10; try clear Na10; try clear Sa10; try clear qa10
    try clear Ar10; try clear cl10; try clear N9; try clear Z9; try clear K9; try clear F9_145; try clear F9_144; try clear V9; try clear st9; try clear W9; try clear e9; try clear X9
    try clear h9; try clear T9; try clear hin9; try clear Ga9; try clear Ha9; try clear Na9; try clear Sa9; try clear qa9; try clear Ar9; try clear cl9; try clear N8; try clear Z8
    try clear K8; try clear F8_128; try clear F8_127; try clear V8; try clear st8; try clear W8; try clear e8; try clear X8; try clear h8; try clear T8; try clear hin8; try clear Ga8
    try clear Ha8; try clear Na8; try clear Sa8; try clear qa8; try clear Ar8; try clear cl8; try clear N7; try clear Z7; try clear K7; try clear F7_111; try clear F7_110; try clear V7
    try clear st7; try clear W7; try clear e7; try clear X7; try clear h7; try clear T7; try clear hin7; try clear Ga7; try clear Ha7; try clear Na7; try clear Sa7; try clear qa7
    try clear Ar7; try clear cl7; try clear N6; try clear Z6; try clear K6; try clear F6_94; try clear F6_93; try clear V6; try clear st6; try clear W6; try clear e6; try clear X6
    try clear h6; try clear T6; try clear hin6; try clear Ga6; try clear Ha6; try clear Na6; try clear Sa6; try clear qa6; try clear Ar6; try clear cl6; try clear N5; try clear Z5
    try clear K5; try clear F5_77; try clear F5_76; try clear V5; try clear st5; try clear W5; try clear e5; try clear X5; try clear h5; try clear T5; try clear hin5; try clear Ga5
    try clear Ha5; try clear Na5; try clear Sa5; try clear qa5; try clear Ar5; try clear cl5; try clear N4; try clear Z4; try clear K4; try clear F4_60; try clear F4_59; try clear V4
    try clear st4; try clear W4; try clear e4; try clear X4; try clear h4; try clear T4; try clear hin4; try clear Ga4; try clear Ha4; try clear Na4; try clear Sa4; try clear qa4
    try clear Ar4; try clear cl4; try clear N3; try clear Z3; try clear K3; try clear F3_43; try clear F3_42; try clear V3; try clear st3; try clear W3; try clear e3; try clear X3
    try clear h3; try clear T3; try clear hin3; try clear Ga3; try clear Ha3; try clear Na3; try clear Sa3; try clear qa3; try clear Ar3; try clear cl3; try clear N2; try clear Z2
    try clear K2; try clear F2_26; try clear F2_25; try clear V2; try clear st2; try clear W2; try clear e2; try clear X2; try clear h2; try clear T2; try clear hin2; try clear Ga2
    try clear Ha2; try clear Na2; try clear Sa2; try clear qa2; try clear Ar2; try clear cl2; try clear V1; try clear Z1; try clear K1; try clear F1_9; try clear F1_8; try clear size
    try clear h0; try clear g1; try clear st1; try clear A1; try clear E1; try clear e1; try clear X1; try clear h1; try clear T1
    obtain ⟨Lw23, X23w, N23w⟩ := ownPack X21 N21
    obtain ⟨_, _, ⟨T24, L24, k24, n24⟩, -, X24, ⟨Lc24, hQ24, l24, y24, z24⟩, st24⟩ := Jvm.LawKit.callS X23w hx (y := (⟨"com/example/beforehand/beforehand/WhiteSpace", "contains", "(C)Z"⟩ : MethodName)) hown (mvT hZ (hw _ (List.mem_of_getElem? (i := 3) rfl))) (mvT hZ (hw _ (List.mem_of_getElem? (i := 4) rfl))) (mvT hZ (hw _ (List.mem_of_getElem? (i := 5) rfl))) (mvT hZ (hw _ (List.mem_of_getElem? (i := 6) rfl))) (by decide) (backOf (W := 0) (rm1 l Z a0 hw [] (v0_171_0 p1) r1 kR h21 n0 Z21 F21_349 F21_348) hZ (hw _ (List.mem_of_getElem? (i := 6) rfl)) (hw _ (List.mem_of_getElem? (i := 5) rfl)) (by decide) (by decide)) (g := (mkF m 175 #[.val (.int p1), .val (.int p2), .val (.ref b1), .val (.int (p1 &&& (65535 : Int32))), .val (.int (v0_171_0 p1))] [(.int (v0_171_0 p1))])) rfl (by rw [hml]; rfl) (argsL := [(.int (v0_171_0 p1))]) (rest := []) (lenOf pd_0_0 rfl) rfl (by show 2 * 0 + _ ≤ _; exact Nat.le_of_eq rfl) (hb hby at_175) (fun _ _ => ⟨rfl, e21, (by decide : 1 + 0 ≤ _), (by decide : 20 + 0 ≤ _)⟩)
    dsimp only [Pt.U, Pt.locs, Pt.cells, Pt.slots] at X24 l24 y24 z24 st24 hQ24
    subst l24 y24 z24
    obtain ⟨rfl, N24q, er24⟩ := hQ24
    have e24 : T24.heap = h21 := er24
    have N24 := Fr.app N23w N24q
    refine Goes.via st24 ?_
    show Goes p e below (T24.setTop (mkF m 178 #[.val (.int p1), .val (.int p2), .val (.ref b1), .val (.int (p1 &&& (65535 : Int32))), .val (.int (v0_171_0 p1))] [(.int (f1 (v0_171_0 p1) r1))])) _
    refine Goes.via (fun t k => XS.iloadN X24.here hx rfl (hb hby at_178) rfl k) ?_
    show Goes p e below (T24.setTop (mkF m 179 #[.val (.int p1), .val (.int p2), .val (.ref b1), .val (.int (p1 &&& (65535 : Int32))), .val (.int (v0_171_0 p1))] [(.int (p1 &&& (65535 : Int32))), (.int (f1 (v0_171_0 p1) r1))])) _
    obtain ⟨Lw25, X25w, N25w⟩ := ownPack X24 N24
    obtain ⟨_, _, ⟨T26, L26, k26, n26⟩, -, X26, ⟨Lc26, hQ26, l26, y26, z26⟩, st26⟩ := Jvm.LawKit.callS X25w hx (y := (⟨"com/example/beforehand/beforehand/WhiteSpaceContainsPinLaw", "ref", "(I)Z"⟩ : MethodName)) hown (mvT hZ (hw _ (List.mem_of_getElem? (i := 16) rfl))) (mvT hZ (hw _ (List.mem_of_getElem? (i := 17) rfl))) (mvT hZ (hw _ (List.mem_of_getElem? (i := 18) rfl))) (mvT hZ (hw _ (List.mem_of_getElem? (i := 19) rfl))) (by decide) (backOf (W := 1) (rm4 l Z a0 hw [] (p1 &&& (65535 : Int32)) h21 n0 Z21 ) hZ (hw _ (List.mem_of_getElem? (i := 19) rfl)) (hw _ (List.mem_of_getElem? (i := 18) rfl)) (by decide) (by decide)) (g := (mkF m 179 #[.val (.int p1), .val (.int p2), .val (.ref b1), .val (.int (p1 &&& (65535 : Int32))), .val (.int (v0_171_0 p1))] [(.int (p1 &&& (65535 : Int32))), (.int (f1 (v0_171_0 p1) r1))])) rfl (by rw [hml]; rfl) (argsL := [(.int (p1 &&& (65535 : Int32)))]) (rest := [(.int (f1 (v0_171_0 p1) r1))]) (lenOf pd_0_1 rfl) rfl (by show 2 * 0 + _ ≤ _; exact Nat.le_of_eq rfl) (hb hby at_179) (fun _ _ => ⟨rfl, e24, (by decide : 1 + 0 ≤ _), (by decide : 20 + 0 ≤ _)⟩)
    dsimp only [Pt.U, Pt.locs, Pt.cells, Pt.slots] at X26 l26 y26 z26 st26 hQ26
    subst l26 y26 z26
    obtain ⟨rfl, N26q, er26⟩ := hQ26
    have e26 : T26.heap = h21 := er26
    have N26 := Fr.app N25w N26q
    refine Goes.via st26 ?_
    show Goes p e below (T26.setTop (mkF m 182 #[.val (.int p1), .val (.int p2), .val (.ref b1), .val (.int (p1 &&& (65535 : Int32))), .val (.int (v0_171_0 p1))] [(.int (f4 (p1 &&& (65535 : Int32)))), (.int (f1 (v0_171_0 p1) r1))])) _
    refine Goes.via (next := T26.setTop (mkF m 190 #[.val (.int p1), .val (.int p2), .val (.ref b1), .val (.int (p1 &&& (65535 : Int32))), .val (.int (v0_171_0 p1))] [(.int (v0_190_1 p1 r1))])) (fun t k => ?_) ?_
    · by_cases hc182_27 : (f1 (v0_171_0 p1) r1) = (f4 (p1 &&& (65535 : Int32)))
      · refine XS.icmpNo X26.here hx rfl (hb hby at_182) rfl (teq hc182_27).2 ?_
        show Steps p.tables e below (T26.setTop (mkF m 185 #[.val (.int p1), .val (.int p2), .val (.ref b1), .val (.int (p1 &&& (65535 : Int32))), .val (.int (v0_171_0 p1))] [])) _
        refine XS.iconst X26.here hx rfl (hb hby at_185) ?_
        show Steps p.tables e below (T26.setTop (mkF m 186 #[.val (.int p1), .val (.int p2), .val (.ref b1), .val (.int (p1 &&& (65535 : Int32))), .val (.int (v0_171_0 p1))] [(.int (1 : Int32))])) _
        refine XS.goto X26.here hx rfl (pc0 := 186) (pc' := 190) rfl (hb hby at_186) (by decide) (by decide) ?_
        show Steps p.tables e below (T26.setTop (mkF m 190 #[.val (.int p1), .val (.int p2), .val (.ref b1), .val (.int (p1 &&& (65535 : Int32))), .val (.int (v0_171_0 p1))] [(.int (1 : Int32))])) _
        simpa only [v0_190_1, if_pos hc182_27] using k
      · refine XS.icmpYes X26.here hx rfl (pc0 := 182) (pc' := 189) rfl (hb hby at_182) rfl (feq hc182_27).2 (by decide) (by decide) ?_
        show Steps p.tables e below (T26.setTop (mkF m 189 #[.val (.int p1), .val (.int p2), .val (.ref b1), .val (.int (p1 &&& (65535 : Int32))), .val (.int (v0_171_0 p1))] [])) _
        refine XS.iconst X26.here hx rfl (hb hby at_189) ?_
        show Steps p.tables e below (T26.setTop (mkF m 190 #[.val (.int p1), .val (.int p2), .val (.ref b1), .val (.int (p1 &&& (65535 : Int32))), .val (.int (v0_171_0 p1))] [(.int (0 : Int32))])) _
        simpa only [v0_190_1, if_neg hc182_27] using k
    show Goes p e below (T26.setTop (mkF m 190 #[.val (.int p1), .val (.int p2), .val (.ref b1), .val (.int (p1 &&& (65535 : Int32))), .val (.int (v0_171_0 p1))] [(.int (v0_190_1 p1 r1))])) _
    obtain ⟨fs, hr, hrun, hended, hW, hsame⟩ := X26.leave (v := some (.int (nar .boolean (v0_190_1 p1 r1)))) (fun h => by rw [Bd.returns] at h; cases h)
    refine ⟨_, _, ?_, hrun, hended, _, _, rfl, ?_, ⟨_, rfl⟩, hW, hsame.mono (by decide) (by decide)⟩
    · exact retN X26 hx (t := .boolean) Bd.returns (by simp) (hb hby at_190) hr
    · show Q0 Z p1 p2 r1 h0 n0 _ T26.heap _
      exact ⟨congrArg some (congrArg _ (by simp only [f0, if_pos hc136_22])), N26, trivial⟩
  · refine Goes.via (fun t k => XS.ifNo X21.here hx rfl (hb hby at_136) rfl ((if0 _ _).trans (feq hc136_22).1) k) ?_
    show Goes p e below (T21.setTop (mkF m 139 #[.val (.int p1), .val (.int p2), .val (.ref b1), .unset, .unset] [])) _
    refine Goes.via (fun t k => XS.iloadN X21.here hx rfl (hb hby at_139) rfl k) ?_
    show Goes p e below (T21.setTop (mkF m 140 #[.val (.int p1), .val (.int p2), .val (.ref b1), .unset, .unset] [(.int p2)])) _
    refine Goes.via (fun t k => XS.iconst X21.here hx rfl (hb hby at_140) k) ?_
    show Goes p e below (T21.setTop (mkF m 141 #[.val (.int p1), .val (.int p2), .val (.ref b1), .unset, .unset] [(.int (1 : Int32)), (.int p2)])) _
    refine Goes.via (fun t k => XS.iushr X21.here hx rfl (hb hby at_141) rfl k) ?_
    show Goes p e below (T21.setTop (mkF m 142 #[.val (.int p1), .val (.int p2), .val (.ref b1), .unset, .unset] [(.int ((p2.toUInt32 >>> ((1 : Int32) &&& 31).toUInt32).toInt32))])) _
    refine Goes.via (fun t k => X21.ldcInt hx hown (mvT hZ (hw _ (List.mem_of_getElem? (i := 2) rfl))) (g := (mkF m 142 #[.val (.int p1), .val (.int p2), .val (.ref b1), .unset, .unset] [(.int ((p2.toUInt32 >>> ((1 : Int32) &&& 31).toUInt32).toInt32))])) rfl (hb hby at_142) _ k) ?_
    show Goes p e below (T21.setTop (mkF m 144 #[.val (.int p1), .val (.int p2), .val (.ref b1), .unset, .unset] [(.int (2147483647 : Int32)), (.int ((p2.toUInt32 >>> ((1 : Int32) &&& 31).toUInt32).toInt32))])) _
    refine Goes.via (fun t k => XS.iand X21.here hx rfl (hb hby at_144) rfl k) ?_
    show Goes p e below (T21.setTop (mkF m 145 #[.val (.int p1), .val (.int p2), .val (.ref b1), .unset, .unset] [(.int (((p2.toUInt32 >>> ((1 : Int32) &&& 31).toUInt32).toInt32) &&& (2147483647 : Int32)))])) _
    refine Goes.via (fun t k => XS.bipush X21.here hx rfl (hb hby at_145) k) ?_
    show Goes p e below (T21.setTop (mkF m 147 #[.val (.int p1), .val (.int p2), .val (.ref b1), .unset, .unset] [(.int (20 : Int32)), (.int (((p2.toUInt32 >>> ((1 : Int32) &&& 31).toUInt32).toInt32) &&& (2147483647 : Int32)))])) _
    refine Goes.via (fun t k => iremM X21 hx rfl (hb hby at_147) rfl (by decide) k) ?_
    show Goes p e below (T21.setTop (mkF m 148 #[.val (.int p1), .val (.int p2), .val (.ref b1), .unset, .unset] [(.int ((((p2.toUInt32 >>> ((1 : Int32) &&& 31).toUInt32).toInt32) &&& (2147483647 : Int32)) % (20 : Int32)))])) _
    refine Goes.via (fun t k => XS.istore X21.here hx rfl (hb hby at_148) rfl (l' := #[.val (.int p1), .val (.int p2), .val (.ref b1), .unset, .val (.int (v0_148_2 p2))]) rfl k) ?_
    show Goes p e below (T21.setTop (mkF m 150 #[.val (.int p1), .val (.int p2), .val (.ref b1), .unset, .val (.int (v0_148_2 p2))] [])) _
    refine Goes.via (fun t k => XS.aloadN X21.here hx rfl (hb hby at_150) rfl rfl k) ?_
    show Goes p e below (T21.setTop (mkF m 151 #[.val (.int p1), .val (.int p2), .val (.ref b1), .unset, .val (.int (v0_148_2 p2))] [(.ref b1)])) _
    refine Goes.via (fun t k => XS.iload X21.here hx rfl (hb hby at_151) rfl k) ?_
    show Goes p e below (T21.setTop (mkF m 153 #[.val (.int p1), .val (.int p2), .val (.ref b1), .unset, .val (.int (v0_148_2 p2))] [(.int (v0_148_2 p2)), (.ref b1)])) _
    obtain ⟨cl28, Ar28, qa28, Sa28, Na28, Ha28, Ga28⟩ := id V21
    have hin28 : ¬ ((v0_148_2 p2) < 0 ∨ cl28.slots.size ≤ ((v0_148_2 p2)).toNatClampNeg) := inb_of Sa28 (own_in _)
    have hat28 : cl28.slots[((v0_148_2 p2)).toNatClampNeg]? = some (.int (own_at (v0_148_2 p2))) := Ha28.at hin28 (own_got _)
    refine Goes.via (fun t k => X21.iaload hx (j := (v0_148_2 p2)) (v := (.int (own_at (v0_148_2 p2)))) (by rw [e21]; exact Ar28.1) (State.isArrayOf_alike hZ.alike Ar28.2.1) Ar28.2.2 hin28 hat28 (g := (mkF m 153 #[.val (.int p1), .val (.int p2), .val (.ref b1), .unset, .val (.int (v0_148_2 p2))] [(.int (v0_148_2 p2)), (.ref b1)])) rfl rfl (hb hby at_153) _ k) ?_
    show Goes p e below (T21.setTop (mkF m 154 #[.val (.int p1), .val (.int p2), .val (.ref b1), .unset, .val (.int (v0_148_2 p2))] [(.int (own_at (v0_148_2 p2)))])) _
    refine Goes.via (fun t k => XS.iloadN X21.here hx rfl (hb hby at_154) rfl k) ?_
    show Goes p e below (T21.setTop (mkF m 155 #[.val (.int p1), .val (.int p2), .val (.ref b1), .unset, .val (.int (v0_148_2 p2))] [(.int p1), (.int (own_at (v0_148_2 p2)))])) _
    refine Goes.via (fun t k => XS.iconst X21.here hx rfl (hb hby at_155) k) ?_
    show Goes p e below (T21.setTop (mkF m 156 #[.val (.int p1), .val (.int p2), .val (.ref b1), .unset, .val (.int (v0_148_2 p2))] [(.int (3 : Int32)), (.int p1), (.int (own_at (v0_148_2 p2)))])) _
    refine Goes.via (fun t k => XS.iand X21.here hx rfl (hb hby at_156) rfl k) ?_
    show Goes p e below (T21.setTop (mkF m 157 #[.val (.int p1), .val (.int p2), .val (.ref b1), .unset, .val (.int (v0_148_2 p2))] [(.int (p1 &&& (3 : Int32))), (.int (own_at (v0_148_2 p2)))])) _
    refine Goes.via (fun t k => XS.iconst X21.here hx rfl (hb hby at_157) k) ?_
    show Goes p e below (T21.setTop (mkF m 158 #[.val (.int p1), .val (.int p2), .val (.ref b1), .unset, .val (.int (v0_148_2 p2))] [(.int (1 : Int32)), (.int (p1 &&& (3 : Int32))), (.int (own_at (v0_148_2 p2)))])) _
    refine Goes.via (fun t k => XS.isub X21.here hx rfl (hb hby at_158) rfl k) ?_
    show Goes p e below (T21.setTop (mkF m 159 #[.val (.int p1), .val (.int p2), .val (.ref b1), .unset, .val (.int (v0_148_2 p2))] [(.int ((p1 &&& (3 : Int32)) - (1 : Int32))), (.int (own_at (v0_148_2 p2)))])) _
    refine Goes.via (fun t k => XS.iadd X21.here hx rfl (hb hby at_159) rfl k) ?_
    show Goes p e below (T21.setTop (mkF m 160 #[.val (.int p1), .val (.int p2), .val (.ref b1), .unset, .val (.int (v0_148_2 p2))] [(.int ((own_at (v0_148_2 p2)) + ((p1 &&& (3 : Int32)) - (1 : Int32))))])) _
    refine Goes.via (fun t k => XS.istoreN X21.here hx rfl (hb hby at_160) rfl (l' := #[.val (.int p1), .val (.int p2), .val (.ref b1), .val (.int (v0_160_3 p1 p2)), .val (.int (v0_148_2 p2))]) rfl k) ?_
    show Goes p e below (T21.setTop (mkF m 161 #[.val (.int p1), .val (.int p2), .val (.ref b1), .val (.int (v0_160_3 p1 p2)), .val (.int (v0_148_2 p2))] [])) _
    refine Goes.via (fun t k => XS.goto X21.here hx rfl (pc0 := 161) (pc' := 169) rfl (hb hby at_161) (by decide) (by decide) k) ?_
    show Goes p e below (T21.setTop (mkF m 169 #[.val (.int p1), .val (.int p2), .val (.ref b1), .val (.int (v0_160_3 p1 p2)), .val (.int (v0_148_2 p2))] [])) _
    refine Goes.via (fun t k => XS.iloadN X21.here hx rfl (hb hby at_169) rfl k) ?_
    show Goes p e below (T21.setTop (mkF m 170 #[.val (.int p1), .val (.int p2), .val (.ref b1), .val (.int (v0_160_3 p1 p2)), .val (.int (v0_148_2 p2))] [(.int (v0_160_3 p1 p2))])) _
    refine Goes.via (fun t k => XS.i2c X21.here hx rfl (hb hby at_170) rfl k) ?_
    show Goes p e below (T21.setTop (mkF m 171 #[.val (.int p1), .val (.int p2), .val (.ref b1), .val (.int (v0_160_3 p1 p2)), .val (.int (v0_148_2 p2))] [(.int ((v0_160_3 p1 p2).toUInt32.toUInt16.toUInt32.toInt32))])) _
    refine Goes.via (fun t k => XS.istore X21.here hx rfl (hb hby at_171) rfl (l' := #[.val (.int p1), .val (.int p2), .val (.ref b1), .val (.int (v0_160_3 p1 p2)), .val (.int (v0_171_4 p1 p2))]) rfl k) ?_
    show Goes p e below (T21.setTop (mkF m 173 #[.val (.int p1), .val (.int p2), .val (.ref b1), .val (.int (v0_160_3 p1 p2)), .val (.int (v0_171_4 p1 p2))] [])) _
    refine Goes.via (fun t k => XS.iload X21.here hx rfl (hb hby at_173) rfl k) ?_
    show Goes p e below (T21.setTop (mkF m 175 #[.val (.int p1), .val (.int p2), .val (.ref b1), .val (.int (v0_160_3 p1 p2)), .val (.int (v0_171_4 p1 p2))] [(.int (v0_171_4 p1 p2))])) _
    try clear hat28; try clear hin28; try clear Ga28; try clear Ha28; try clear Na28; try clear Sa28; try clear qa28; try clear Ar28; try clear cl28; try clear st21; try clear W21; try clear hin21
    try clear Ga21; try clear Ha21; try clear Na21; try clear Sa21; try clear qa21; try clear Ar21; try clear cl21; try clear N20; try clear Z20; try clear K20; try clear F20_332; try clear F20_331
    try clear V20; try clear st20; try clear W20; try clear e20; try clear X20; try clear h20; try clear T20; try clear hin20; try clear Ga20; try clear Ha20; try clear Na20; try clear Sa20
    try clear qa20; try clear Ar20; try clear cl20; try clear N19; try clear Z19; try clear K19; try clear F19_315; try clear F19_314; try clear V19; try clear st19; try clear W19; try clear e19
    try clear X19; try clear h19; try clear T19; try clear hin19; try clear Ga19; try clear Ha19; try clear Na19; try clear Sa19; try clear qa19; try clear Ar19; try clear cl19; try clear N18
    try clear Z18; try clear K18; try clear F18_298; try clear F18_297; try clear V18; try clear st18; try clear W18; try clear e18; try clear X18; try clear h18; try clear T18; try clear hin18
    try clear Ga18; try clear Ha18; try clear Na18; try clear Sa18; try clear qa18; try clear Ar18; try clear cl18; try clear N17; try clear Z17; try clear K17; try clear F17_281; try clear F17_280
    try clear V17; try clear st17; try clear W17; try clear e17; try clear X17; try clear h17; try clear T17; try clear hin17; try clear Ga17; try clear Ha17; try clear Na17; try clear Sa17
    try clear qa17; try clear Ar17; try clear cl17; try clear N16; try clear Z16; try clear K16; try clear F16_264; try clear F16_263; try clear V16; try clear st16; try clear W16; try clear e16
    try clear X16; try clear h16; try clear T16; try clear hin16; try clear Ga16; try clear Ha16; try clear Na16; try clear Sa16; try clear qa16; try clear Ar16; try clear cl16; try clear N15
    try clear Z15; try clear K15; try clear F15_247; try clear F15_246; try clear V15; try clear st15; try clear W15; try clear e15; try clear X15; try clear h15; try clear T15; try clear hin15
    try clear Ga15; try clear Ha15; try clear Na15; try clear Sa15; try clear qa15; try clear Ar15; try clear cl15; try clear N14; try clear Z14; try clear K14; try clear F14_230; try clear F14_229
    try clear V14; try clear st14; try clear W14; try clear e14; try clear X14; try clear h14; try clear T14; try clear hin14; try clear Ga14; try clear Ha14; try clear Na14; try clear Sa14
    try clear qa14; try clear Ar14; try clear cl14; try clear N13; try clear Z13; try clear K13; try clear F13_213; try clear F13_212; try clear V13; try clear st13; try clear W13; try clear e13
    try clear X13; try clear h13; try clear T13; try clear hin13; try clear Ga13; try clear Ha13; try clear Na13; try clear Sa13; try clear qa13; try clear Ar13; try clear cl13; try clear N12
    try clear Z12; try clear K12; try clear F12_196; try clear F12_195; try clear V12; try clear st12; try clear W12; try clear e12; try clear X12; try clear h12; try clear T12; try clear hin12
    try clear Ga12; try clear Ha12; try clear Na12; try clear Sa12; try clear qa12; try clear Ar12; try clear cl12; try clear N11; try clear Z11; try clear K11; try clear F11_179; try clear F11_178
    try clear V11; try clear st11; try clear W11; try clear e11; try clear X11; try clear h11; try clear T11; try clear hin11; try clear Ga11; try clear Ha11; try clear Na11; try clear Sa11
    try clear qa11; try clear Ar11; try clear cl11; try clear N10; try clear Z10; try clear K10; try clear F10_162; try clear F10_161; try clear V10; try clear st10; try clear W10; try clear e10
    try clear X10; try clear h10; try clear T10; try clear hin10; try clear Ga10; try clear Ha10; try clear Na10; try clear Sa10; try clear qa10; try clear Ar10; try clear cl10; try clear N9
    try clear Z9; try clear K9; try clear F9_145; try clear F9_144; try clear V9; try clear st9; try clear W9; try clear e9; try clear X9; try clear h9; try clear T9; try clear hin9
    try clear Ga9; try clear Ha9; try clear Na9; try clear Sa9; try clear qa9; try clear Ar9; try clear cl9; try clear N8; try clear Z8; try clear K8; try clear F8_128; try clear F8_127
    try clear V8; try clear st8; try clear W8; try clear e8; try clear X8; try clear h8; try clear T8; try clear hin8; try clear Ga8; try clear Ha8; try clear Na8; try clear Sa8
    try clear qa8; try clear Ar8; try clear cl8; try clear N7; try clear Z7; try clear K7; try clear F7_111; try clear F7_110; try clear V7; try clear st7; try clear W7; try clear e7
    try clear X7; try clear h7; try clear T7; try clear hin7; try clear Ga7; try clear Ha7; try clear Na7; try clear Sa7; try clear qa7; try clear Ar7; try clear cl7; try clear N6
    try clear Z6; try clear K6; try clear F6_94; try clear F6_93; try clear V6; try clear st6; try clear W6; try clear e6; try clear X6; try clear h6; try clear T6; try clear hin6
    try clear Ga6; try clear Ha6; try clear Na6; try clear Sa6; try clear qa6; try clear Ar6; try clear cl6; try clear N5; try clear Z5; try clear K5; try clear F5_77; try clear F5_76
    try clear V5; try clear st5; try clear W5; try clear e5; try clear X5; try clear h5; try clear T5; try clear hin5; try clear Ga5; try clear Ha5; try clear Na5; try clear Sa5
    try clear qa5; try clear Ar5; try clear cl5; try clear N4; try clear Z4; try clear K4; try clear F4_60; try clear F4_59; try clear V4; try clear st4; try clear W4; try clear e4
    try clear X4; try clear h4; try clear T4; try clear hin4; try clear Ga4; try clear Ha4; try clear Na4; try clear Sa4; try clear qa4; try clear Ar4; try clear cl4; try clear N3
    try clear Z3; try clear K3; try clear F3_43; try clear F3_42; try clear V3; try clear st3; try clear W3; try clear e3; try clear X3; try clear h3; try clear T3; try clear hin3
    try clear Ga3; try clear Ha3; try clear Na3; try clear Sa3; try clear qa3; try clear Ar3; try clear cl3; try clear N2; try clear Z2; try clear K2; try clear F2_26; try clear F2_25
    try clear V2; try clear st2; try clear W2; try clear e2; try clear X2; try clear h2; try clear T2; try clear hin2; try clear Ga2; try clear Ha2; try clear Na2; try clear Sa2
    try clear qa2; try clear Ar2; try clear cl2; try clear V1; try clear Z1; try clear K1; try clear F1_9; try clear F1_8; try clear size; try clear h0; try clear g1; try clear st1
    try clear A1; try clear E1; try clear e1; try clear X1; try clear h1; try clear T1
    obtain ⟨Lw29, X29w, N29w⟩ := ownPack X21 N21
    obtain ⟨_, _, ⟨T30, L30, k30, n30⟩, -, X30, ⟨Lc30, hQ30, l30, y30, z30⟩, st30⟩ := Jvm.LawKit.callS X29w hx (y := (⟨"com/example/beforehand/beforehand/WhiteSpace", "contains", "(C)Z"⟩ : MethodName)) hown (mvT hZ (hw _ (List.mem_of_getElem? (i := 3) rfl))) (mvT hZ (hw _ (List.mem_of_getElem? (i := 4) rfl))) (mvT hZ (hw _ (List.mem_of_getElem? (i := 5) rfl))) (mvT hZ (hw _ (List.mem_of_getElem? (i := 6) rfl))) (by decide) (backOf (W := 0) (rm1 l Z a0 hw [] (v0_171_4 p1 p2) r1 kR h21 n0 Z21 F21_349 F21_348) hZ (hw _ (List.mem_of_getElem? (i := 6) rfl)) (hw _ (List.mem_of_getElem? (i := 5) rfl)) (by decide) (by decide)) (g := (mkF m 175 #[.val (.int p1), .val (.int p2), .val (.ref b1), .val (.int (v0_160_3 p1 p2)), .val (.int (v0_171_4 p1 p2))] [(.int (v0_171_4 p1 p2))])) rfl (by rw [hml]; rfl) (argsL := [(.int (v0_171_4 p1 p2))]) (rest := []) (lenOf pd_0_0 rfl) rfl (by show 2 * 0 + _ ≤ _; exact Nat.le_of_eq rfl) (hb hby at_175) (fun _ _ => ⟨rfl, e21, (by decide : 1 + 0 ≤ _), (by decide : 20 + 0 ≤ _)⟩)
    dsimp only [Pt.U, Pt.locs, Pt.cells, Pt.slots] at X30 l30 y30 z30 st30 hQ30
    subst l30 y30 z30
    obtain ⟨rfl, N30q, er30⟩ := hQ30
    have e30 : T30.heap = h21 := er30
    have N30 := Fr.app N29w N30q
    refine Goes.via st30 ?_
    show Goes p e below (T30.setTop (mkF m 178 #[.val (.int p1), .val (.int p2), .val (.ref b1), .val (.int (v0_160_3 p1 p2)), .val (.int (v0_171_4 p1 p2))] [(.int (f1 (v0_171_4 p1 p2) r1))])) _
    refine Goes.via (fun t k => XS.iloadN X30.here hx rfl (hb hby at_178) rfl k) ?_
    show Goes p e below (T30.setTop (mkF m 179 #[.val (.int p1), .val (.int p2), .val (.ref b1), .val (.int (v0_160_3 p1 p2)), .val (.int (v0_171_4 p1 p2))] [(.int (v0_160_3 p1 p2)), (.int (f1 (v0_171_4 p1 p2) r1))])) _
    obtain ⟨Lw31, X31w, N31w⟩ := ownPack X30 N30
    obtain ⟨_, _, ⟨T32, L32, k32, n32⟩, -, X32, ⟨Lc32, hQ32, l32, y32, z32⟩, st32⟩ := Jvm.LawKit.callS X31w hx (y := (⟨"com/example/beforehand/beforehand/WhiteSpaceContainsPinLaw", "ref", "(I)Z"⟩ : MethodName)) hown (mvT hZ (hw _ (List.mem_of_getElem? (i := 16) rfl))) (mvT hZ (hw _ (List.mem_of_getElem? (i := 17) rfl))) (mvT hZ (hw _ (List.mem_of_getElem? (i := 18) rfl))) (mvT hZ (hw _ (List.mem_of_getElem? (i := 19) rfl))) (by decide) (backOf (W := 1) (rm4 l Z a0 hw [] (v0_160_3 p1 p2) h21 n0 Z21 ) hZ (hw _ (List.mem_of_getElem? (i := 19) rfl)) (hw _ (List.mem_of_getElem? (i := 18) rfl)) (by decide) (by decide)) (g := (mkF m 179 #[.val (.int p1), .val (.int p2), .val (.ref b1), .val (.int (v0_160_3 p1 p2)), .val (.int (v0_171_4 p1 p2))] [(.int (v0_160_3 p1 p2)), (.int (f1 (v0_171_4 p1 p2) r1))])) rfl (by rw [hml]; rfl) (argsL := [(.int (v0_160_3 p1 p2))]) (rest := [(.int (f1 (v0_171_4 p1 p2) r1))]) (lenOf pd_0_1 rfl) rfl (by show 2 * 0 + _ ≤ _; exact Nat.le_of_eq rfl) (hb hby at_179) (fun _ _ => ⟨rfl, e30, (by decide : 1 + 0 ≤ _), (by decide : 20 + 0 ≤ _)⟩)
    dsimp only [Pt.U, Pt.locs, Pt.cells, Pt.slots] at X32 l32 y32 z32 st32 hQ32
    subst l32 y32 z32
    obtain ⟨rfl, N32q, er32⟩ := hQ32
    have e32 : T32.heap = h21 := er32
    have N32 := Fr.app N31w N32q
    refine Goes.via st32 ?_
    show Goes p e below (T32.setTop (mkF m 182 #[.val (.int p1), .val (.int p2), .val (.ref b1), .val (.int (v0_160_3 p1 p2)), .val (.int (v0_171_4 p1 p2))] [(.int (f4 (v0_160_3 p1 p2))), (.int (f1 (v0_171_4 p1 p2) r1))])) _
    refine Goes.via (next := T32.setTop (mkF m 190 #[.val (.int p1), .val (.int p2), .val (.ref b1), .val (.int (v0_160_3 p1 p2)), .val (.int (v0_171_4 p1 p2))] [(.int (v0_190_5 p1 p2 r1))])) (fun t k => ?_) ?_
    · by_cases hc182_33 : (f1 (v0_171_4 p1 p2) r1) = (f4 (v0_160_3 p1 p2))
      · refine XS.icmpNo X32.here hx rfl (hb hby at_182) rfl (teq hc182_33).2 ?_
        show Steps p.tables e below (T32.setTop (mkF m 185 #[.val (.int p1), .val (.int p2), .val (.ref b1), .val (.int (v0_160_3 p1 p2)), .val (.int (v0_171_4 p1 p2))] [])) _
        refine XS.iconst X32.here hx rfl (hb hby at_185) ?_
        show Steps p.tables e below (T32.setTop (mkF m 186 #[.val (.int p1), .val (.int p2), .val (.ref b1), .val (.int (v0_160_3 p1 p2)), .val (.int (v0_171_4 p1 p2))] [(.int (1 : Int32))])) _
        refine XS.goto X32.here hx rfl (pc0 := 186) (pc' := 190) rfl (hb hby at_186) (by decide) (by decide) ?_
        show Steps p.tables e below (T32.setTop (mkF m 190 #[.val (.int p1), .val (.int p2), .val (.ref b1), .val (.int (v0_160_3 p1 p2)), .val (.int (v0_171_4 p1 p2))] [(.int (1 : Int32))])) _
        simpa only [v0_190_5, if_pos hc182_33] using k
      · refine XS.icmpYes X32.here hx rfl (pc0 := 182) (pc' := 189) rfl (hb hby at_182) rfl (feq hc182_33).2 (by decide) (by decide) ?_
        show Steps p.tables e below (T32.setTop (mkF m 189 #[.val (.int p1), .val (.int p2), .val (.ref b1), .val (.int (v0_160_3 p1 p2)), .val (.int (v0_171_4 p1 p2))] [])) _
        refine XS.iconst X32.here hx rfl (hb hby at_189) ?_
        show Steps p.tables e below (T32.setTop (mkF m 190 #[.val (.int p1), .val (.int p2), .val (.ref b1), .val (.int (v0_160_3 p1 p2)), .val (.int (v0_171_4 p1 p2))] [(.int (0 : Int32))])) _
        simpa only [v0_190_5, if_neg hc182_33] using k
    show Goes p e below (T32.setTop (mkF m 190 #[.val (.int p1), .val (.int p2), .val (.ref b1), .val (.int (v0_160_3 p1 p2)), .val (.int (v0_171_4 p1 p2))] [(.int (v0_190_5 p1 p2 r1))])) _
    obtain ⟨fs, hr, hrun, hended, hW, hsame⟩ := X32.leave (v := some (.int (nar .boolean (v0_190_5 p1 p2 r1)))) (fun h => by rw [Bd.returns] at h; cases h)
    refine ⟨_, _, ?_, hrun, hended, _, _, rfl, ?_, ⟨_, rfl⟩, hW, hsame.mono (by decide) (by decide)⟩
    · exact retN X32 hx (t := .boolean) Bd.returns (by simp) (hb hby at_190) hr
    · show Q0 Z p1 p2 r1 h0 n0 _ T32.heap _
      exact ⟨congrArg some (congrArg _ (by simp only [f0, if_neg hc136_22])), N32, trivial⟩
theorem own_lits : (0 : Int32).toInt = 0 ∧ (1 : Int32).toInt = 1 ∧ (9 : Int32).toInt = 9 ∧ (13 : Int32).toInt = 13 ∧ (32 : Int32).toInt = 32 ∧ (160 : Int32).toInt = 160 ∧ (5760 : Int32).toInt = 5760 ∧ (8192 : Int32).toInt = 8192 ∧ (8202 : Int32).toInt = 8202 ∧ (8232 : Int32).toInt = 8232 ∧ (8233 : Int32).toInt = 8233 ∧ (8239 : Int32).toInt = 8239 ∧ (8287 : Int32).toInt = 8287 ∧ (12288 : Int32).toInt = 12288 ∧ (65279 : Int32).toInt = 65279 := by decide
abbrev own_W (y : Int) : Prop := (9 ≤ y ∧ y ≤ 13) ∨ y = 32 ∨ y = 160 ∨ y = 5760 ∨ (8192 ≤ y ∧ y ≤ 8202) ∨ y = 8232 ∨ y = 8233 ∨ y = 8239 ∨ y = 8287 ∨ y = 12288 ∨ y = 65279
set_option maxHeartbeats 4000000 in
theorem own_ref (c : Int32) : f4 c = if own_W c.toInt then 1 else 0 := by
  obtain ⟨e0, e1, e9, e13, e32, e160, e5760, e8192, e8202, e8232, e8233, e8239, e8287, e12288, e65279⟩ := own_lits
  have hq : ∀ k : Int32, (c = k) ↔ (c.toInt = k.toInt) := fun k => Int32.toInt_inj.symm
  simp only [f4, Int32.lt_iff_toInt_lt, hq, e0, e1, e9, e13, e32, e160, e5760, e8192, e8202, e8232, e8233, e8239, e8287, e12288, e65279]
  generalize c.toInt = y
  by_cases h : own_W y
  · rw [if_pos h]
    rcases h with ⟨h1, h2⟩ | h | h | h | ⟨h1, h2⟩ | h | h | h | h | h | h
    · rw [if_neg (by omega : ¬ y < 9), if_neg (by omega : ¬ 13 < y)]
    · subst h; decide
    · subst h; decide
    · subst h; decide
    · rw [if_neg (by omega : ¬ y < 9), if_pos (by omega : 13 < y), if_neg (by omega : ¬ y = 32), if_neg (by omega : ¬ y = 160), if_neg (by omega : ¬ y = 5760), if_neg (by omega : ¬ y < 8192), if_neg (by omega : ¬ 8202 < y)]
    · subst h; decide
    · subst h; decide
    · subst h; decide
    · subst h; decide
    · subst h; decide
    · subst h; decide
  · rw [if_neg h]
    unfold own_W at h
    have n32 : ¬ y = 32 := by omega
    have n160 : ¬ y = 160 := by omega
    have n5760 : ¬ y = 5760 := by omega
    have n8232 : ¬ y = 8232 := by omega
    have n8233 : ¬ y = 8233 := by omega
    have n8239 : ¬ y = 8239 := by omega
    have n8287 : ¬ y = 8287 := by omega
    have n12288 : ¬ y = 12288 := by omega
    have n65279 : ¬ y = 65279 := by omega
    simp only [if_neg n32, if_neg n160, if_neg n5760, if_neg n8232, if_neg n8233, if_neg n8239, if_neg n8287, if_neg n12288, if_neg n65279]
    by_cases h9 : y < 9
    · rw [if_pos h9, if_pos (by omega : y < 8192)]
    · rw [if_neg h9, if_pos (by omega : 13 < y)]
      by_cases h8 : y < 8192
      · rw [if_pos h8]
      · rw [if_neg h8, if_pos (by omega : 8202 < y)]
def own_dec (m : Int32) : Int32 := if m < (0 : Int32) then nar .boolean (if ((-m) - (1 : Int32)) % (2 : Int32) = (1 : Int32) then (1 : Int32) else (0 : Int32)) else (1 : Int32)
set_option maxHeartbeats 4000000 in
theorem own_con (c : Int32) (r : Addr) : f1 c r = if own_W c.toInt then 1 else 0 := by
  have h : f1 c r = own_dec (f3 r c) := rfl
  rw [h]
  obtain ⟨e0, e1, e9, e13, e32, e160, e5760, e8192, e8202, e8232, e8233, e8239, e8287, e12288, e65279⟩ := own_lits
  simp only [f3, Int32.lt_iff_toInt_lt, e0, e1, e9, e13, e32, e160, e5760, e8192, e8202, e8232, e8233, e8239, e8287, e12288, e65279]
  generalize c.toInt = y
  unfold own_W
  repeat' split
  all_goals first | decide | (exfalso; omega)
theorem own_char {c : Int32} (h0 : 0 ≤ c.toInt) (h1 : c.toInt < 65536) : c.toUInt32.toUInt16.toUInt32.toInt32 = c := by
  apply Int32.toInt_inj.mp
  have := c_i2c c
  omega
theorem own_ats : ∀ n : Fin 20, 9 ≤ (own_at (Int32.ofNat n.val)).toInt ∧ (own_at (Int32.ofNat n.val)).toInt ≤ 65279 := by decide +kernel
theorem own_code (p1 p2 : Int32) : 0 ≤ (v0_160_3 p1 p2).toInt ∧ (v0_160_3 p1 p2).toInt < 65536 := by
  obtain ⟨q1, q2⟩ := own_in p2
  have e0 : (0 : Int32).toInt = 0 := by decide
  have e1 : (1 : Int32).toInt = 1 := by decide
  have e3 : (20 : Int32).toInt = 20 := by decide
  rw [Int32.lt_iff_toInt_lt, e0] at q1
  rw [Int32.lt_iff_toInt_lt, e3] at q2
  have ha : 9 ≤ (own_at (v0_148_2 p2)).toInt ∧ (own_at (v0_148_2 p2)).toInt ≤ 65279 := by
    have h := own_ats ⟨(v0_148_2 p2).toInt.toNat, by omega⟩
    have e : Int32.ofNat (v0_148_2 p2).toInt.toNat = v0_148_2 p2 := by
      apply Int32.toInt_inj.mp
      rw [Int32.toInt_ofNat_of_lt (by omega)]
      omega
    simp only [e] at h
    exact h
  have m := c_mask p1 3 2 (by decide) (by decide)
  have hp : ((2 ^ 2 : Nat) : Int) = 4 := by decide
  rw [hp] at m
  have s1 := c_isub (p1 &&& 3) 1
  have r1 := rng32 ((p1 &&& 3) - 1)
  rw [e1] at s1
  have s2 := c_iadd (own_at (v0_148_2 p2)) ((p1 &&& 3) - 1)
  have r2 := rng32 (own_at (v0_148_2 p2) + ((p1 &&& 3) - 1))
  show 0 ≤ (own_at (v0_148_2 p2) + ((p1 &&& 3) - 1)).toInt ∧ (own_at (v0_148_2 p2) + ((p1 &&& 3) - 1)).toInt < 65536
  omega
theorem one_1 (p1 p2 : Int32) (r1 : Addr) : f0 p1 p2 r1 = 1 := by
  have h1 : f1 (v0_171_0 p1) r1 = f4 (p1 &&& (65535 : Int32)) := by
    have m := c_mask p1 65535 16 (by decide) (by decide)
    have hp : ((2 ^ 16 : Nat) : Int) = 65536 := by decide
    rw [hp] at m
    have e : v0_171_0 p1 = p1 &&& 65535 := own_char (by omega) (by omega)
    rw [e, own_con, own_ref]
  have h2 : f1 (v0_171_4 p1 p2) r1 = f4 (v0_160_3 p1 p2) := by
    have c := own_code p1 p2
    have e : v0_171_4 p1 p2 = v0_160_3 p1 p2 := own_char c.1 c.2
    rw [e, own_con, own_ref]
  simp only [f0, v0_190_1, v0_190_5, if_pos h1, if_pos h2]
  split <;> decide
theorem own_isInt {args : Array Value} {s : State} {t : Jvm.Term} {k : Int32} (h : t.eval args s none [] s = some (.int k)) : (Jvm.Cond.isInt t).before args s = true := by
  simp [Cond.before, Cond.holds, Cond.value, h]
set_option maxRecDepth 65536 in
set_option maxHeartbeats 40000000 in
theorem comes_1 {Post : Tables → Env → Array Value → State → Outcome → State → Prop} (hpost : ∀ tb e args s v u, (limb_1_1.after args s (.returned v) u = true ∧ limb_1_2.after args s (.returned v) u = true ∧ True) → FrameEnd s (.returned v) u (Jvm.fieldLocs frame_1_writes args s ++ Jvm.arrayLocs frame_1_arrays args s ++ Jvm.staticLocs frame_1_statics s) 16 128 → Post tb e args s (.returned v) u) :
    ArmFor flags0 classFile x code maxLocals ret World_1 tables_1 room_1 Calls_1 rest_1 Pre_1 Post := by
  intro l hfl _ _ p e ha hc hk s m args below hf hA hF happ hP
  obtain ⟨hcalls, hrest, hpre⟩ := hP
  obtain ⟨-, -, -, hnamed, -, -, -, hat⟩ := (Spec.applies_iff hf).mp happ
  obtain ⟨hg, hn⟩ := and_e (Cond.before_iff.mp (show (Jvm.Cond.and given_1 narrow_1).before args s = true from hpre))
  obtain ⟨g0, r0⟩ := and_e hg
  obtain ⟨w0, w1, rfl⟩ : ∃ w0 w1 : Value, args = #[w0, w1] := by
    have hs : args.size = 2 := by simpa [Cond.value, given_1] using g0
    obtain ⟨L⟩ := args
    match L, hs with
    | [w0, w1], _ => exact ⟨w0, w1, rfl⟩
  have hw := fun d (hd : d ∈ tables_1) => atoms_spec (ws := Jvm.Cond.code x code maxLocals ret :: tables_1) hat d (List.mem_cons_of_mem _ hd)
  obtain ⟨g1, r1⟩ := and_e r0
  have g2 := r1
  obtain ⟨i0, ei0⟩ := is_v g1
  obtain rfl : w0 = (.int i0) := Option.some.inj ei0
  obtain ⟨i1, ei1⟩ := is_v g2
  obtain rfl : w1 = (.int i1) := Option.some.inj ei1
  obtain ⟨m0, mr0⟩ := and_e hn
  obtain ⟨m1, mr1⟩ := and_e mr0
  obtain ⟨m2, mr2⟩ := and_e mr1
  obtain ⟨m3, mr3⟩ := and_e mr2
  obtain ⟨m4, mr4⟩ := and_e mr3
  obtain ⟨m5, mr5⟩ := and_e mr4
  obtain ⟨m6, mr6⟩ := and_e mr5
  obtain ⟨m7, mr7⟩ := and_e mr6
  obtain ⟨m8, mr8⟩ := and_e mr7
  obtain ⟨m9, mr9⟩ := and_e mr8
  obtain ⟨m10, mr10⟩ := and_e mr9
  obtain ⟨m11, mr11⟩ := and_e mr10
  obtain ⟨m12, mr12⟩ := and_e mr11
  obtain ⟨m13, mr13⟩ := and_e mr12
  obtain ⟨m14, mr14⟩ := and_e mr13
  obtain ⟨m15, mr15⟩ := and_e mr14
  obtain ⟨m16, mr16⟩ := and_e mr15
  obtain ⟨m17, mr17⟩ := and_e mr16
  obtain ⟨m18, mr18⟩ := and_e mr17
  obtain ⟨m19, mr19⟩ := and_e mr18
  obtain ⟨m20, mr20⟩ := and_e mr19
  have m21 := mr20
  obtain ⟨r1, ev1⟩ := arr_v m0
  have S1 := Sta.start ev1 (Or.inr ⟨(hw _ (List.mem_of_getElem? (i := 5) rfl)), (hw _ (List.mem_of_getElem? (i := 8) rfl))⟩)
  obtain ⟨cl1, Ar1⟩ := Arr.start ev1 m0
  have hfit : Fit s := fun {y c} hc i hi => by
    obtain ⟨ha, rfl⟩ := Array.getElem?_eq_some_iff.mp hc
    have q := List.all_eq_true.mp ((Array.all_eq_true_iff_forall_mem.mp hF) _ (Array.getElem_mem ha)) i (List.mem_range.mpr hi)
    simpa [Array.getElem?_eq_getElem hi] using q
  have hs0 := Cond.small_of_lengthOf ev1 (Arr.fin (Vm.Alike.refl _) Ar1) (own_isInt (eqv_i rfl m1))
  have hl1 := gotT (Cond.eq_ints (len_f ev1 (Arr.fin (Vm.Alike.refl _) Ar1) hs0) (show (Jvm.Term.int (20 : Int32)).eval _ s none [] s = some (.int 20) from rfl)) m1
  have a0 := (elem_f ev1 (show (Jvm.Term.int (0 : Int32)).eval _ s none [] s = some (.int 0) from rfl) (Arr.fin (Vm.Alike.refl _) Ar1) (by decide)).symm.trans (eqv_i rfl m2)
  have a1 := (elem_f ev1 (show (Jvm.Term.int (1 : Int32)).eval _ s none [] s = some (.int 1) from rfl) (Arr.fin (Vm.Alike.refl _) Ar1) (by decide)).symm.trans (eqv_i rfl m3)
  have a2 := (elem_f ev1 (show (Jvm.Term.int (2 : Int32)).eval _ s none [] s = some (.int 2) from rfl) (Arr.fin (Vm.Alike.refl _) Ar1) (by decide)).symm.trans (eqv_i rfl m4)
  have a3 := (elem_f ev1 (show (Jvm.Term.int (3 : Int32)).eval _ s none [] s = some (.int 3) from rfl) (Arr.fin (Vm.Alike.refl _) Ar1) (by decide)).symm.trans (eqv_i rfl m5)
  have a4 := (elem_f ev1 (show (Jvm.Term.int (4 : Int32)).eval _ s none [] s = some (.int 4) from rfl) (Arr.fin (Vm.Alike.refl _) Ar1) (by decide)).symm.trans (eqv_i rfl m6)
  have a5 := (elem_f ev1 (show (Jvm.Term.int (5 : Int32)).eval _ s none [] s = some (.int 5) from rfl) (Arr.fin (Vm.Alike.refl _) Ar1) (by decide)).symm.trans (eqv_i rfl m7)
  have a6 := (elem_f ev1 (show (Jvm.Term.int (6 : Int32)).eval _ s none [] s = some (.int 6) from rfl) (Arr.fin (Vm.Alike.refl _) Ar1) (by decide)).symm.trans (eqv_i rfl m8)
  have a7 := (elem_f ev1 (show (Jvm.Term.int (7 : Int32)).eval _ s none [] s = some (.int 7) from rfl) (Arr.fin (Vm.Alike.refl _) Ar1) (by decide)).symm.trans (eqv_i rfl m9)
  have a8 := (elem_f ev1 (show (Jvm.Term.int (8 : Int32)).eval _ s none [] s = some (.int 8) from rfl) (Arr.fin (Vm.Alike.refl _) Ar1) (by decide)).symm.trans (eqv_i rfl m10)
  have a9 := (elem_f ev1 (show (Jvm.Term.int (9 : Int32)).eval _ s none [] s = some (.int 9) from rfl) (Arr.fin (Vm.Alike.refl _) Ar1) (by decide)).symm.trans (eqv_i rfl m11)
  have a10 := (elem_f ev1 (show (Jvm.Term.int (10 : Int32)).eval _ s none [] s = some (.int 10) from rfl) (Arr.fin (Vm.Alike.refl _) Ar1) (by decide)).symm.trans (eqv_i rfl m12)
  have a11 := (elem_f ev1 (show (Jvm.Term.int (11 : Int32)).eval _ s none [] s = some (.int 11) from rfl) (Arr.fin (Vm.Alike.refl _) Ar1) (by decide)).symm.trans (eqv_i rfl m13)
  have a12 := (elem_f ev1 (show (Jvm.Term.int (12 : Int32)).eval _ s none [] s = some (.int 12) from rfl) (Arr.fin (Vm.Alike.refl _) Ar1) (by decide)).symm.trans (eqv_i rfl m14)
  have a13 := (elem_f ev1 (show (Jvm.Term.int (13 : Int32)).eval _ s none [] s = some (.int 13) from rfl) (Arr.fin (Vm.Alike.refl _) Ar1) (by decide)).symm.trans (eqv_i rfl m15)
  have a14 := (elem_f ev1 (show (Jvm.Term.int (14 : Int32)).eval _ s none [] s = some (.int 14) from rfl) (Arr.fin (Vm.Alike.refl _) Ar1) (by decide)).symm.trans (eqv_i rfl m16)
  have a15 := (elem_f ev1 (show (Jvm.Term.int (15 : Int32)).eval _ s none [] s = some (.int 15) from rfl) (Arr.fin (Vm.Alike.refl _) Ar1) (by decide)).symm.trans (eqv_i rfl m17)
  have a16 := (elem_f ev1 (show (Jvm.Term.int (16 : Int32)).eval _ s none [] s = some (.int 16) from rfl) (Arr.fin (Vm.Alike.refl _) Ar1) (by decide)).symm.trans (eqv_i rfl m18)
  have a17 := (elem_f ev1 (show (Jvm.Term.int (17 : Int32)).eval _ s none [] s = some (.int 17) from rfl) (Arr.fin (Vm.Alike.refl _) Ar1) (by decide)).symm.trans (eqv_i rfl m19)
  have a18 := (elem_f ev1 (show (Jvm.Term.int (18 : Int32)).eval _ s none [] s = some (.int 18) from rfl) (Arr.fin (Vm.Alike.refl _) Ar1) (by decide)).symm.trans (eqv_i rfl m20)
  have a19 := (elem_f ev1 (show (Jvm.Term.int (19 : Int32)).eval _ s none [] s = some (.int 19) from rfl) (Arr.fin (Vm.Alike.refl _) Ar1) (by decide)).symm.trans (eqv_i rfl m21)
  have V1 : Arv s s.heap r1 cl1.cls .int (20 : Int32) own_list (.int (0 : Int32)) := Arv.start hfit Ar1 hs0 hl1 (by decide) (by decide) ⟨a0, a1, a2, a3, a4, a5, a6, a7, a8, a9, a10, a11, a12, a13, a14, a15, a16, a17, a18, a19, trivial⟩
  obtain ⟨n, o, h1, h2, h3, v, L, rfl, hQ, hq⟩ := rm0 l s _ hw tables_1 i0 i1 r1 cl1.cls s.heap s.heap.size (Nat.le_refl _) S1 V1 p e ha hc hk s m _ below hf ((Spec.applies_iff_loose hf).mp happ).1 ⟨rfl, State.Warmed39.refl s, rfl⟩ trivial
  obtain ⟨hv, N⟩ : v = some (.int 1) ∧ Fr s.heap.size L := ⟨by rw [hQ.1, one_1], hQ.2.1⟩
  subst hv
  refine ⟨n, _, h1, h2, h3, hpost _ _ _ _ _ _ ⟨Cond.after_iff.mpr rfl, Cond.after_iff.mpr (eq_i res_at (Term.int_eval (1)) rfl), trivial⟩ ⟨hq.1, hq.2.1, (hq.2.2.sift fun y hy => Or.inr (N y hy)).mono (by decide) (by decide)⟩⟩
theorem main_1_1 : Claimed_1_1 := comes_1 fun _ _ _ _ _ _ h hF => ⟨h.1, hF⟩
theorem main_1_2 : Claimed_1_2 := comes_1 fun _ _ _ _ _ _ h hF => ⟨h.2.1, hF⟩
end Jvm.Pilot.@@N@@
namespace Jvm.Pilot.@@N@@
open Jvm Jvm.ClassFile Sem Op Lib Jvm.Free Jvm.Stand Jvm.Pilot.@@N@@.Jvm.D
/-! MADE BY PROGRAM (witnessworld.py) out of the Statement's table words and the real class files: 10 classes; the members and pool entries that the words name. The judged class is class 1, her method 2. -/
namespace start1
open Jvm.ClassFile
def u (s : String) : CpInfo := .utf8 (stringToUtf16 s)
/-- a pool by its gaps: so many unusable entries, then the entry; so many at the end -/
def gap : Nat → List CpInfo → List CpInfo
  | 0, r => r
  | n + 1, r => .unusable :: gap n r
def poolList (es : List (Nat × CpInfo)) (last : Nat) : List CpInfo := es.foldr (fun e r => gap e.1 (e.2 :: r)) (gap last [])
def pool (es : List (Nat × CpInfo)) (last : Nat) : Array CpInfo := ⟨poolList es last⟩
def fileOf (pool : Array CpInfo) (this : Nat) (attrs : Array Attribute := #[]) (ms : Array MethodInfo := #[]) (fl : Nat := 33) (sup : Nat := 0) (ifs : Array Nat := #[]) (fds : Array FieldInfo := #[]) : ClassFile where
  minorVersion := 0
  majorVersion := 65
  constantPool := pool
  accessFlags := fl
  thisClass := this
  superClass := sup
  interfaces := ifs
  fields := fds
  methods := ms
  attributes := attrs
def plain (name : String) (sup : Option ClassId) : Class where
  name := name
  kind := .ordinary
  loader := none
  accessFlags := 33
  super := sup
  interfaces := #[]
  cf := none
  fields := #[]
  methods := #[]
  instanceTypes := #[]
  staticTypes := #[]
  resolved := #[]
  callSites := []
  init := .initialized
  statics := none
  mirror := none

def pool0 : Array CpInfo := pool [(5, u "<init>"), (0, u "()V"), (1, .class_ 10), (1, u "java/lang/Object")] 113

def k0m0 : Method := { name := "<init>", desc := "()V", sig := { parameters := [], returnType := none }, accessFlags := 1, code := none }
/-- java/lang/Object -/
def k0 : Class := { plain "java/lang/Object" none with
  accessFlags := 33
  interfaces := #[]
  cf := some (fileOf pool0 8 #[] #[{ accessFlags := 1, nameIndex := 5, descriptorIndex := 6, attributes := #[] }] 33 0 #[] #[])
  fields := #[]
  methods := #[k0m0]
  instanceTypes := #[]
  staticTypes := #[]
  resolved := Array.replicate 124 none
  statics := none }

def pool1 : Array CpInfo := pool [(2, .class_ 4), (1, u "java/lang/Object"), (0, u "<init>"), (0, u "()V"), (0, .integer 65279), (0, .integer 2147483647), (0, .integer 65535), (0, .methodref 11 12), (0, .class_ 13), (0, .nameAndType 14 15), (0, u "com/example/beforehand/beforehand/WhiteSpace"), (0, u "contains"), (0, u "(C)Z"), (0, .methodref 17 18), (0, .class_ 19), (0, .nameAndType 20 21), (0, u "com/example/beforehand/beforehand/WhiteSpaceContainsPinLaw"), (0, u "ref"), (0, u "(I)Z"), (3, u "law"), (0, u "(II)Z")] 4

def k1m0 : Method := { name := "<init>", desc := "()V", sig := { parameters := [], returnType := none }, accessFlags := 2, code := none }
def k1c1 : Code := { maxStack := 2, maxLocals := 1, code := method_2_code, exceptionTable := #[], attributes := #[] }
def k1m1 : Method := { name := "ref", desc := "(I)Z", sig := { parameters := [.int], returnType := some .boolean }, accessFlags := 10, code := some k1c1 }
def k1c2 : Code := { maxStack := 4, maxLocals := 5, code := code, exceptionTable := #[], attributes := #[] }
def k1m2 : Method := { name := "law", desc := "(II)Z", sig := { parameters := [.int, .int], returnType := some .boolean }, accessFlags := 9, code := some k1c2 }
/-- com/example/beforehand/beforehand/WhiteSpaceContainsPinLaw -/
def k1 : Class := { plain "com/example/beforehand/beforehand/WhiteSpaceContainsPinLaw" (some 0) with
  accessFlags := 49
  interfaces := #[]
  cf := some (fileOf pool1 17 #[] #[{ accessFlags := 2, nameIndex := 5, descriptorIndex := 6, attributes := #[] }, { accessFlags := 10, nameIndex := 20, descriptorIndex := 21, attributes := #[] }, { accessFlags := 9, nameIndex := 25, descriptorIndex := 26, attributes := #[] }] 49 2 #[] #[])
  fields := #[]
  methods := #[k1m0, k1m1, k1m2]
  instanceTypes := #[]
  staticTypes := #[]
  resolved := Array.replicate 31 none
  statics := none }

def pool2 : Array CpInfo := pool [(2, .class_ 4), (1, u "java/lang/Object"), (0, u "<init>"), (0, u "()V"), (0, .fieldref 8 9), (0, .class_ 10), (0, .nameAndType 11 12), (0, u "com/example/beforehand/beforehand/WhiteSpace"), (0, u "RANGES"), (0, u "[I"), (0, .methodref 14 15), (0, .class_ 16), (0, .nameAndType 17 18), (0, u "java/util/Arrays"), (0, u "binarySearch"), (0, u "([II)I"), (8, u "contains"), (0, u "(C)Z")] 6

def k2m0 : Method := { name := "<init>", desc := "()V", sig := { parameters := [], returnType := none }, accessFlags := 2, code := none }
def k2c1 : Code := { maxStack := 2, maxLocals := 2, code := prog_44_method_2_code, exceptionTable := #[], attributes := #[] }
def k2m1 : Method := { name := "contains", desc := "(C)Z", sig := { parameters := [.char], returnType := some .boolean }, accessFlags := 8, code := some k2c1 }
/-- com/example/beforehand/beforehand/WhiteSpace -/
def k2 : Class := { plain "com/example/beforehand/beforehand/WhiteSpace" (some 0) with
  accessFlags := 48
  interfaces := #[]
  cf := some (fileOf pool2 8 #[] #[{ accessFlags := 2, nameIndex := 5, descriptorIndex := 6, attributes := #[] }, { accessFlags := 8, nameIndex := 27, descriptorIndex := 28, attributes := #[] }] 48 2 #[] #[{ accessFlags := 26, nameIndex := 11, descriptorIndex := 12, attributes := #[] }])
  fields := #[{ name := "RANGES", type := (.array .int), accessFlags := 26, slot := 0, constantValue := 0 }]
  methods := #[k2m0, k2m1]
  instanceTypes := #[]
  staticTypes := #[(.array .int)]
  resolved := Array.replicate 35 none
  statics := some 0 }

def pool3 : Array CpInfo := pool [(2, .class_ 4), (1, u "java/lang/Object"), (0, u "<init>"), (0, u "()V"), (7, .class_ 16), (1, u "java/util/Arrays"), (57, .class_ 76), (1, u "java/util/Arrays$NaturalOrder"), (36, .class_ 115), (1, u "java/util/Arrays$LegacyMergeSort"), (1, u "Z"), (89, u "binarySearch0"), (1, .methodref 14 210), (0, .nameAndType 207 211), (0, u "([IIII)I"), (163, .class_ 376), (0, u "java/util/Arrays$ArrayList"), (68, u "$assertionsDisabled"), (269, u "MIN_ARRAY_SORT_GRAN"), (0, u "I"), (2, u "INSERTIONSORT_THRESHOLD"), (74, u "binarySearch"), (4, u "([II)I"), (175, .class_ 976), (0, u "java/util/Arrays$ArrayItr")] 52

def k3m0 : Method := { name := "<init>", desc := "()V", sig := { parameters := [], returnType := none }, accessFlags := 2, code := none }
def k3c1 : Code := { maxStack := 4, maxLocals := 2, code := jdk_65_method_57_code, exceptionTable := #[], attributes := #[] }
def k3m1 : Method := { name := "binarySearch", desc := "([II)I", sig := { parameters := [(.array .int), .int], returnType := some .int }, accessFlags := 9, code := some k3c1 }
def k3c2 : Code := { maxStack := 2, maxLocals := 8, code := jdk_65_method_59_code, exceptionTable := #[], attributes := #[] }
def k3m2 : Method := { name := "binarySearch0", desc := "([IIII)I", sig := { parameters := [(.array .int), .int, .int, .int], returnType := some .int }, accessFlags := 10, code := some k3c2 }
/-- java/util/Arrays -/
def k3 : Class := { plain "java/util/Arrays" (some 0) with
  accessFlags := 49
  interfaces := #[]
  cf := some (fileOf pool3 14 #[.nestMembers #[975, 375, 113, 74]] #[{ accessFlags := 2, nameIndex := 5, descriptorIndex := 6, attributes := #[] }, { accessFlags := 9, nameIndex := 794, descriptorIndex := 799, attributes := #[] }, { accessFlags := 10, nameIndex := 207, descriptorIndex := 211, attributes := #[] }] 49 2 #[] #[{ accessFlags := 26, nameIndex := 715, descriptorIndex := 716, attributes := #[] }, { accessFlags := 26, nameIndex := 719, descriptorIndex := 716, attributes := #[] }, { accessFlags := 4120, nameIndex := 445, descriptorIndex := 117, attributes := #[] }])
  fields := #[{ name := "MIN_ARRAY_SORT_GRAN", type := .int, accessFlags := 26, slot := 0, constantValue := 0 }, { name := "INSERTIONSORT_THRESHOLD", type := .int, accessFlags := 26, slot := 1, constantValue := 0 }, { name := "$assertionsDisabled", type := .boolean, accessFlags := 4120, slot := 2, constantValue := 0 }]
  methods := #[k3m0, k3m1, k3m2]
  instanceTypes := #[]
  staticTypes := #[.int, .int, .boolean]
  resolved := Array.replicate 1029 none
  statics := none }

def pool4 : Array CpInfo := pool [(1, u "java/lang/Cloneable"), (0, .class_ 1), (0, u "java/lang/Object"), (0, .class_ 3)] 3

/-- java/lang/Cloneable -/
def k4 : Class := { plain "java/lang/Cloneable" (some 0) with
  accessFlags := 1537
  interfaces := #[]
  cf := some (fileOf pool4 2 #[] #[] 1537 4 #[] #[])
  fields := #[]
  methods := #[]
  instanceTypes := #[]
  staticTypes := #[]
  resolved := Array.replicate 8 none
  statics := none }

def pool5 : Array CpInfo := pool [(1, u "java/io/Serializable"), (0, .class_ 1), (0, u "java/lang/Object"), (0, .class_ 3)] 3

/-- java/io/Serializable -/
def k5 : Class := { plain "java/io/Serializable" (some 0) with
  accessFlags := 1537
  interfaces := #[]
  cf := some (fileOf pool5 2 #[] #[] 1537 4 #[] #[])
  fields := #[]
  methods := #[]
  instanceTypes := #[]
  staticTypes := #[]
  resolved := Array.replicate 8 none
  statics := none }

/-- the primitive byte -/
def k6 : Class := { plain "byte" none with kind := .primitive 'B', accessFlags := 0x411 }
/-- [B -/
def k7 : Class := { plain "[B" (some 0) with kind := .array 6 .byte, interfaces := #[4, 5], accessFlags := 1041 }

/-- the primitive int -/
def k8 : Class := { plain "int" none with kind := .primitive 'I', accessFlags := 0x411 }
/-- [I -/
def k9 : Class := { plain "[I" (some 0) with kind := .array 8 .int, interfaces := #[4, 5], accessFlags := 1041 }

def heap : Heap := #[{ cls := 2, slots := #[.ref 1], vm := .statics 2 },
  { cls := 9, slots := #[.int 9, .int 13, .int 32, .int 32, .int 160, .int 160, .int 5760, .int 5760, .int 8192, .int 8202, .int 8232, .int 8233, .int 8239, .int 8239, .int 8287, .int 8287, .int 12288, .int 12288, .int 65279, .int 65279], vm := .none }]
def classes : Array Class := #[k0, k1, k2, k3, k4, k5, k6, k7, k8, k9]
def interned : List (Array UInt16 × Addr) := []
def slotsUsed : Nat := 21
def theMethod : MethodId := ⟨1, 2⟩
def args0 : Array Value := #[.int 5, .int 3]
def aboutOver (below : List Frame) : State where
  vm := { classes := classes, interned := interned.toArray }
  heap := heap
  slotsUsed := slotsUsed
  threads := #[{ frames := .invoking theMethod args0 :: below }]
def below0 : List Frame := [.native { method := ⟨0, 0⟩, args := #[] }]
def about1 : State := aboutOver below0
def p0 : Program := .bare "" "" ""
def e0 : Env := launch0.env 0 0 0
theorem w_frames : about1.frames = Frame.invoking theMethod args0 :: below0 := rfl
set_option maxRecDepth 65536 in
theorem w_args : argsFit about1.vm theMethod args0 = true := by decide +kernel
set_option maxRecDepth 65536 in
theorem w_heap : heapFits about1 = true := by decide +kernel
set_option maxRecDepth 65536 in
theorem w_runnable : about1.curStatus? = some .runnable := by decide +kernel
set_option maxRecDepth 65536 in
theorem w_alone : about1.alone = true := by decide +kernel
set_option maxRecDepth 65536 in
theorem w_named : about1.methodNamed? x = some theMethod := by decide +kernel
set_option maxRecDepth 65536 in
theorem w_hears : about1.hears theMethod below0 = true := by decide +kernel
set_option maxRecDepth 65536 in
theorem w_ripe : about1.ripe theMethod args0 below0 = true := by decide +kernel
theorem w_running : about1.status = .running := rfl
set_option maxRecDepth 65536 in
theorem w_room : about1.hasRoom e0.platform room_1 = true :=
  launch0.hasRoom_least _ room_1 (by decide +kernel) (by decide +kernel) (by decide +kernel) (by decide +kernel) (by decide +kernel) (by decide +kernel)
theorem allAtoms_all (ts : List Jvm.Cond) (a : Array Jvm.Value) (st : Jvm.State) : (allAtoms ts).before a st = ts.all (fun c => c.before a st) := by
  induction ts with
  | nil => rfl
  | cons c t ih =>
    show (Jvm.Cond.and c (allAtoms t)).before a st = _
    rw [Jvm.Cond.before_and, ih, List.all_cons]
def words1 : List Jvm.Cond := Jvm.Cond.code x code maxLocals ret :: tables_1
/-- a 'code' word, met by the world's own term for the bytes: nothing is compared byte by byte -/
theorem code_word {y : MethodName} {bytes : ByteArray} {mx : Nat} {rt : Option FieldType} {a : Array Value} {s : State} {m : MethodId} {meth : Method} {c : Code} (h1 : s.methodNamed? y = some m) (h2 : s.vm.method? m = some meth) (h3 : meth.code = some c) (h4 : c.code = bytes)
    (h5 : (c.maxLocals == mx && c.exceptionTable.isEmpty && decide (c.maxStack ≤ mostOperands) && decide (meth.sig.returnType = rt) && !meth.locks && decide (parseMethodDescriptor y.desc = some meth.sig)) = true) : (Jvm.Cond.code y bytes mx rt).before a s = true := by
  simp only [Bool.and_eq_true, beq_iff_eq, Bool.not_eq_true', decide_eq_true_eq] at h5
  obtain ⟨⟨⟨⟨⟨g1, g2⟩, g3⟩, g4⟩, g5⟩, g6⟩ := h5
  simp [Cond.before, Cond.holds, Cond.value, h1, h2, h3, h4, g1, g2, g3, g4, g5, g6]
def isCode : Jvm.Cond → Bool
  | .code _ _ _ _ => true
  | _ => false
theorem all_split {L : List Jvm.Cond} {P : Jvm.Cond → Bool} (h1 : L.all (fun c => isCode c || P c) = true) (h2 : ∀ c ∈ L.filter isCode, P c = true) : L.all P = true := by
  refine List.all_eq_true.mpr fun c hc => ?_
  have h := List.all_eq_true.mp h1 c hc
  rcases Bool.eq_false_or_eq_true (isCode c) with hi | hi
  · exact h2 c (List.mem_filter.mpr ⟨hc, hi⟩)
  · simpa [hi] using h
set_option maxRecDepth 65536 in
theorem w_c0 : (Jvm.Cond.code x code maxLocals ret).before args0 about1 = true := code_word (m := ⟨1, 2⟩) (meth := k1m2) (c := k1c2) (by decide +kernel) rfl rfl rfl (by decide +kernel)
set_option maxRecDepth 65536 in
theorem w_c1 : (Jvm.Cond.code ({ cls := "com/example/beforehand/beforehand/WhiteSpace", name := "contains", desc := "(C)Z" } : Jvm.MethodName) prog_44_method_2_code (2 : Nat) (Option.some Jvm.ClassFile.FieldType.boolean)).before args0 about1 = true := code_word (m := ⟨2, 1⟩) (meth := k2m1) (c := k2c1) (by decide +kernel) rfl rfl rfl (by decide +kernel)
set_option maxRecDepth 65536 in
theorem w_c2 : (Jvm.Cond.code ({ cls := "java/util/Arrays", name := "binarySearch", desc := "([II)I" } : Jvm.MethodName) jdk_65_method_57_code (2 : Nat) (Option.some Jvm.ClassFile.FieldType.int)).before args0 about1 = true := code_word (m := ⟨3, 1⟩) (meth := k3m1) (c := k3c1) (by decide +kernel) rfl rfl rfl (by decide +kernel)
set_option maxRecDepth 65536 in
theorem w_c3 : (Jvm.Cond.code ({ cls := "java/util/Arrays", name := "binarySearch0", desc := "([IIII)I" } : Jvm.MethodName) jdk_65_method_59_code (8 : Nat) (Option.some Jvm.ClassFile.FieldType.int)).before args0 about1 = true := code_word (m := ⟨3, 2⟩) (meth := k3m2) (c := k3c2) (by decide +kernel) rfl rfl rfl (by decide +kernel)
set_option maxRecDepth 65536 in
theorem w_c4 : (Jvm.Cond.code ({ cls := "com/example/beforehand/beforehand/WhiteSpaceContainsPinLaw", name := "ref", desc := "(I)Z" } : Jvm.MethodName) method_2_code (1 : Nat) (Option.some Jvm.ClassFile.FieldType.boolean)).before args0 about1 = true := code_word (m := ⟨1, 1⟩) (meth := k1m1) (c := k1c1) (by decide +kernel) rfl rfl rfl (by decide +kernel)
def codes1 : List Jvm.Cond := [Jvm.Cond.code x code maxLocals ret, Jvm.Cond.code ({ cls := "com/example/beforehand/beforehand/WhiteSpace", name := "contains", desc := "(C)Z" } : Jvm.MethodName) prog_44_method_2_code (2 : Nat) (Option.some Jvm.ClassFile.FieldType.boolean), Jvm.Cond.code ({ cls := "java/util/Arrays", name := "binarySearch", desc := "([II)I" } : Jvm.MethodName) jdk_65_method_57_code (2 : Nat) (Option.some Jvm.ClassFile.FieldType.int), Jvm.Cond.code ({ cls := "java/util/Arrays", name := "binarySearch0", desc := "([IIII)I" } : Jvm.MethodName) jdk_65_method_59_code (8 : Nat) (Option.some Jvm.ClassFile.FieldType.int), Jvm.Cond.code ({ cls := "com/example/beforehand/beforehand/WhiteSpaceContainsPinLaw", name := "ref", desc := "(I)Z" } : Jvm.MethodName) method_2_code (1 : Nat) (Option.some Jvm.ClassFile.FieldType.boolean)]
set_option maxRecDepth 65536 in
theorem codes_eq : words1.filter isCode = codes1 := rfl
theorem w_codes : ∀ c ∈ words1.filter isCode, c.before args0 about1 = true := by
  rw [codes_eq]
  intro c hc
  simp only [codes1, List.mem_cons, List.not_mem_nil, or_false] at hc
  rcases hc with rfl | rfl | rfl | rfl | rfl
  · exact w_c0
  · exact w_c1
  · exact w_c2
  · exact w_c3
  · exact w_c4
set_option maxRecDepth 65536 in
theorem w_t1 : words1.all (fun c => isCode c || c.before args0 about1) = true := by decide +kernel
theorem w_tables : (allAtoms (Jvm.Cond.code x code maxLocals ret :: tables_1)).before args0 about1 = true := by
  rw [allAtoms_all]
  show words1.all (fun c => c.before args0 about1) = true
  refine all_split ?_ w_codes
  rw [w_t1]
set_option maxRecDepth 65536 in
theorem w_case : (Jvm.Cond.and given_1 narrow_1).before args0 about1 = true := by decide +kernel
theorem w_applies : (headSpec (Jvm.Cond.code x code maxLocals ret :: tables_1) room_1).applies x e0.platform about1 = true :=
  (Spec.applies_iff w_frames).mpr ⟨w_running, w_runnable, w_alone, w_named, w_hears, w_ripe, w_room, w_tables⟩
theorem atStart : AtStart classFile x code maxLocals ret World_1 tables_1 room_1 Calls_1 rest_1 Pre_1 launch0 p0 e0 about1 theMethod args0 below0 :=
  ⟨lists_1, trivial, launch0.admits_env _ _ _, launch0.least_env, fairChoices_fair.cas, fairChoices_fair.clock, w_frames, w_args, w_heap, w_applies, trivial, trivial, w_case⟩
end start1
theorem witness_1 : WitnessClaimed_1 := ⟨start1.p0, start1.e0, start1.about1, start1.theMethod, start1.args0, start1.below0, start1.atStart⟩
end Jvm.Pilot.@@N@@
