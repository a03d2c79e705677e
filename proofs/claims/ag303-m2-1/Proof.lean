import JvmDerived
import JvmDerived.Pilot.@@N@@Statement
import JvmDerived.Pilot.@@N@@Code
set_option linter.unusedVariables false
set_option linter.unusedSimpArgs false
namespace Jvm.RoadKit
open Sem ClassFile Op Lib Jvm.Stand Jvm.Free Jvm.LawKit
section New
variable {p : Program} {l : Launch} {e : Env} {R : Room} {s : State} {m : MethodId} {args : Array Value} {below : List Frame} {meth : Method} {c : Code} {T : State} {locs : List Loc} {cells slots : Nat}
theorem retI (X : Stand p l e R s m args below meth c T locs cells slots) (hx : p.tables.exec = Jvm.exec) {pc : Nat} {Ls : Array Slot} {z : Int32} {rest : List Value} (hret : meth.sig.returnType = some .int) (hd : decode c.code pc = .ok (.ireturn, 1)) {fs : List Frame}
    (hl : ∀ (f : JFrame) (acts : List Action), f.method = m → f.locked = none → f.entered = [] → (doReturn e (T.setTop f) acts (some (.int z))).1 = T.setFrames fs) : Steps p.tables e below (T.setTop (mkF m pc Ls (.int z :: rest))) (T.setFrames fs) := by
  have hm' : T.vm.method? m = some meth := X.method'
  have hn : narrow .int (.int z) = .int z := rfl
  show Steps p.tables e below (T.setTop { method := m, pc := pc, locals := Ls, stack := _ :: rest, locked := none }) _
  jvm_step X.here [X.here.top, hx, hd, hm', hret, hn]
  first | (intro acts; rw [hl _ acts rfl rfl rfl]) | rw [hl _ _ rfl rfl rfl]
  exact Steps.refl _
/-- from here the invocation comes to an end of which R holds -/
def Goes (p : Program) (e : Env) (below : List Frame) (cur : State) (R : State → Outcome → Prop) : Prop := ∃ s₂ o, Steps p.tables e below cur s₂ ∧ s₂.status = .running ∧ Ended s₂ below o ∧ R s₂ o
theorem Goes.via {cur next : State} {R : State → Outcome → Prop} (k : ∀ t, Steps p.tables e below next t → Steps p.tables e below cur t) (h : Goes p e below next R) : Goes p e below cur R := by
  obtain ⟨s₂, o, h1, h2⟩ := h
  exact ⟨s₂, o, k _ h1, h2⟩
/-- the places written so far, as one unknown list -/
theorem ownPack (X : Stand p l e R s m args below meth c T locs cells slots) {n0 : Nat} (N : Fr n0 locs) : ∃ L, Stand p l e R s m args below meth c T L cells slots ∧ Fr n0 L := ⟨_, X, N⟩
end New
end Jvm.RoadKit
namespace Jvm.RoadKit
open Sem ClassFile Op Lib Jvm.Stand Jvm.Free Jvm.LawKit
section NewS
variable {p : Program} {l : Launch} {e : Env} {R : Room} {s : State} {m : MethodId} {args : Array Value} {below : List Frame} {meth : Method} {c : Code} {T : State} {locs : List Loc} {cells slots : Nat} {Z : State} {a0 : Array Value} {h : Heap}
/-- a callee that may intern, with a word on the tables ahead (I) and behind (in Q) -/
theorem ownBackS {y : MethodName} {bytes : ByteArray} {maxL : Nat} {ret : Option FieldType} {rm : Room} {len W : Nat} {as' : Array Value} {I : Vm → Prop} {Q : Option Value → Heap → Vm → List Loc → Prop}
    (hM : MetFree l y (head1 [Cond.code y bytes maxL ret] rm) (fun a U => a = as' ∧ Z.Warmed39 U.vm ∧ U.heap = h ∧ I U.vm) (fun _ _ _ _ _ => True) (fun _ U o U' => ∃ v L, o = .returned v ∧ Q v U'.heap U'.vm L ∧ ReturnedEndW U o U' L rm.cells rm.slots))
    (hZ : Z.Warmed39 s.vm) (hI : ∀ vm, s.WarmedH vm → I vm) (wc : (Cond.code y bytes maxL ret).before a0 Z = true) (wz : (Cond.initialized y.cls).before a0 Z = true) (hf : rm.frames + 1 ≤ R.frames) (hl : W + (maxL + 11) + rm.locals ≤ R.locals) :
    BackS l R p e below s args y len W (fun A a => a = as' ∧ A.U.heap = h ∧ A.cells + rm.cells ≤ R.cells ∧ A.slots + rm.slots ≤ R.slots)
      (fun A _ v B => ∃ L, Q v B.U.heap B.U.vm L ∧ B.locs = A.locs ++ L ∧ B.cells = A.cells + rm.cells ∧ B.slots = A.slots + rm.slots) :=
  BackS.of_freeW (bytes := bytes) (maxL := maxL) (ret := ret) (E := fun _ _ o t L k n => k = rm.cells ∧ n = rm.slots ∧ ∃ v, o = .returned v ∧ Q v t.heap t.vm L) hM hf hl
    (fun m meth c A a Y hp => have hU : Z.Warmed39 A.U.vm := wtrans hZ Y.warmed
      ⟨by show (Cond.and _ .tt).before a A.U = true; rw [Cond.before_and, mv hU wc]; rfl, mv hU wc, mv hU wz, hp.2.2.1, hp.2.2.2⟩)
    (fun m meth c A a g mk Y hp => ⟨hp.1, wtrans hZ Y.warmed, hp.2.1, hI _ Y.warmed⟩) (fun _ _ _ _ _ _ _ _ _ => trivial)
    (fun _ _ _ _ ⟨v, L, h1, h2, h3⟩ => ⟨L, _, _, h3, rfl, rfl, v, h1, h2⟩)
    (fun m meth c A a g mk v t L k n Y hp _ _ ⟨e1, e2, v', e3, e4⟩ => by cases e3; subst e1 e2; exact ⟨L, e4, rfl, rfl, rfl⟩)
theorem IB.warm {Ts : List String} (I : IB Z s.vm Ts) {vm : Vm} (hW : s.WarmedH vm) : IB Z vm Ts := by
  obtain ⟨more, h1, h2⟩ := I
  exact ⟨more, hW.interned_eq.trans h1, h2⟩
theorem Lit.any {s' : State} {vm : Vm} {own : String} {i : Nat} {a : Addr} (L : Lit (s.setVm vm) own i a) : Lit (s'.setVm vm) own i a := L
theorem Lit.warm {own : String} {i : Nat} {a : Addr} (L : Lit s own i a) {vm : Vm} (hW : s.WarmedH vm) : Lit (s.setVm vm) own i a := State.resolvedAt?_warmed39 (s := s) hW.wide L
end NewS
end Jvm.RoadKit
namespace Jvm.Pilot.@@N@@
open Jvm Jvm.ClassFile Sem Op Lib Jvm.Free Jvm.Stand Jvm.LawKit Jvm.RoadKit Bundle Jvm.Pilot.@@N@@.Jvm.D
def own_St (Z : State) (w0 : Int32) : Prop := Sta Z Z.heap "java/lang/String" "COMPACT_STRINGS" "Z" (.int w0) ∧ ¬ w0 = (0 : Int32)
theorem own_c255 (x : Int32) : ¬ ((255 : Int32) < nar .char ((x &&& (255 : Int32)).toUInt32.toUInt16.toUInt32.toInt32)) := by
  have m := c_mask x 255 8 (by decide) (by decide)
  have hp : ((2 ^ 8 : Nat) : Int) = 256 := by decide
  rw [hp] at m
  have c1 := c_i2c (x &&& (255 : Int32))
  have c2 := c_i2c ((x &&& (255 : Int32)).toUInt32.toUInt16.toUInt32.toInt32)
  rw [Int32.lt_iff_toInt_lt, show (255 : Int32).toInt = 255 from by decide]
  show ¬ 255 < ((x &&& (255 : Int32)).toUInt32.toUInt16.toUInt32.toInt32.toUInt32.toUInt16.toUInt32.toInt32).toInt
  omega
theorem own_wS {Z : State} {a0 : Array Value} (hw : ∀ d ∈ tables_1, d.before a0 Z = true) : ∀ a ∈ Bundle.stringAtoms, a.before a0 Z = true := by
  intro a ha
  simp only [Bundle.stringAtoms, Bundle.sN, List.mem_cons, List.not_mem_nil, or_false] at ha
  rcases ha with rfl | rfl | rfl | rfl | rfl | rfl | rfl
  · exact hw _ (List.mem_of_getElem? (i := 3) rfl)
  · exact hw _ (List.mem_of_getElem? (i := 2) rfl)
  · exact hw _ (List.mem_of_getElem? (i := 19) rfl)
  · exact hw _ (List.mem_of_getElem? (i := 29) rfl)
  · exact hw _ (List.mem_of_getElem? (i := 27) rfl)
  · exact hw _ (List.mem_of_getElem? (i := 71) rfl)
  · exact hw _ (List.mem_of_getElem? (i := 72) rfl)
theorem d5_1_0 : decode jdk_52_method_21_code 0 = .ok (.iconst 0, 1) := by decide +kernel
theorem d5_1_1 : decode jdk_52_method_21_code 1 = .ok (.istore 5, 2) := by decide +kernel
theorem d5_1_3 : decode jdk_52_method_21_code 3 = .ok (.iload 5, 2) := by decide +kernel
theorem d5_1_5 : decode jdk_52_method_21_code 5 = .ok (.iload 4, 2) := by decide +kernel
theorem d5_1_7 : decode jdk_52_method_21_code 7 = .ok (.if_icmp .ge 37, 3) := by decide +kernel
theorem d5_1_10 : decode jdk_52_method_21_code 10 = .ok (.aload_n 0, 1) := by decide +kernel
theorem d5_1_11 : decode jdk_52_method_21_code 11 = .ok (.iload_n 1, 1) := by decide +kernel
theorem d5_1_12 : decode jdk_52_method_21_code 12 = .ok (.caload, 1) := by decide +kernel
theorem d5_1_13 : decode jdk_52_method_21_code 13 = .ok (.istore 6, 2) := by decide +kernel
theorem d5_1_15 : decode jdk_52_method_21_code 15 = .ok (.iload 6, 2) := by decide +kernel
theorem d5_1_17 : decode jdk_52_method_21_code 17 = .ok (.sipush 255, 3) := by decide +kernel
theorem d5_1_20 : decode jdk_52_method_21_code 20 = .ok (.if_icmp .le 6, 3) := by decide +kernel
theorem d5_1_26 : decode jdk_52_method_21_code 26 = .ok (.aload_n 2, 1) := by decide +kernel
theorem d5_1_27 : decode jdk_52_method_21_code 27 = .ok (.iload_n 3, 1) := by decide +kernel
theorem d5_1_28 : decode jdk_52_method_21_code 28 = .ok (.iload 6, 2) := by decide +kernel
theorem d5_1_30 : decode jdk_52_method_21_code 30 = .ok (.i2b, 1) := by decide +kernel
theorem d5_1_31 : decode jdk_52_method_21_code 31 = .ok (.bastore, 1) := by decide +kernel
theorem d5_1_32 : decode jdk_52_method_21_code 32 = .ok (.iinc 1 1, 3) := by decide +kernel
theorem d5_1_35 : decode jdk_52_method_21_code 35 = .ok (.iinc 3 1, 3) := by decide +kernel
theorem d5_1_38 : decode jdk_52_method_21_code 38 = .ok (.iinc 5 1, 3) := by decide +kernel
theorem d5_1_41 : decode jdk_52_method_21_code 41 = .ok (.goto (-38), 3) := by decide +kernel
theorem d5_1_44 : decode jdk_52_method_21_code 44 = .ok (.iload 4, 2) := by decide +kernel
theorem d5_1_46 : decode jdk_52_method_21_code 46 = .ok (.ireturn, 1) := by decide +kernel
theorem pn_5_1 : plainName "java/lang/StringUTF16" = true := by first | (simp [plainName, overriddenIn]; done) | decide +kernel
theorem ef_5_1 (m : MethodId) (x0 : Addr) (x2 : Addr) : entryFrame m #[(.ref x0), (.int (0 : Int32)), (.ref x2), (.int (0 : Int32)), (.int (1 : Int32))] 7 = mkF m 0 #[.val (.ref x0), .val (.int (0 : Int32)), .val (.ref x2), .val (.int (0 : Int32)), .val (.int (1 : Int32)), .unset, .unset] [] := by first | (simp [entryFrame, mkF, argsToLocals, Value.category]; done) | rfl
def Q5_1 (Z : State) (a2 : Addr) (k2 : ClassId) (c0 : Int32) (h0 : Heap) (n0 : Nat) (v : Option Value) (h : Heap) (L : List Loc) : Prop := v = some (.int (1 : Int32)) ∧ Fr n0 L ∧ Keep h0 h [a2] ∧ Arv Z h a2 k2 .byte (1 : Int32) [(.int (nar .byte (c0.toInt8.toInt32)))] (.int (0 : Int32))
set_option maxRecDepth 65536 in
set_option maxHeartbeats 40000000 in
theorem rm5_1 (l : Launch) (Z : State) (a0 : Array Value) (hw : ∀ d ∈ tables_1, d.before a0 Z = true) (ws : List Jvm.Cond) (a1 : Addr) (a2 : Addr) (k1 k2 : ClassId) (c0 : Int32) (h0 : Heap) (n0 : Nat) (Z0 : n0 ≤ h0.size) (V1 : Arv Z h0 a1 k1 .char (1 : Int32) [(.int c0)] (.int (0 : Int32))) (V2 : Arv Z h0 a2 k2 .byte (1 : Int32) [(.int (0 : Int32))] (.int (0 : Int32))) (g2 : n0 ≤ a2) (lt12 : a1 < a2) (hc0 : ¬ ((255 : Int32) < c0)) :
    MetFree l (⟨"java/lang/StringUTF16", "compress", "([CI[BII)I"⟩ : MethodName) (head1 (Jvm.Cond.code (⟨"java/lang/StringUTF16", "compress", "([CI[BII)I"⟩ : MethodName) jdk_52_method_21_code 7 (some .int) :: ws) ({ frames := 0, cells := 0, slots := 0, locals := 0 } : Room)) (fun a U => a = #[(.ref a1), (.int (0 : Int32)), (.ref a2), (.int (0 : Int32)), (.int (1 : Int32))] ∧ Z.Warmed39 U.vm ∧ U.heap = h0) (fun _ _ _ _ _ => True) (fun _ U o U' => ∃ v L, o = .returned v ∧ Q5_1 Z a2 k2 c0 h0 n0 v U'.heap L ∧ FrameEnd U o U' L ({ frames := 0, cells := 0, slots := 0, locals := 0 } : Room).cells ({ frames := 0, cells := 0, slots := 0, locals := 0 } : Room).slots) := by
  refine MetFree.of_bodySF (plainFor_of_name pn_5_1) hisR ?_
  intro p e s m args below meth c s₁ Bd hml0 hP hK
  obtain ⟨rfl, hZ, hh⟩ := hP
  have hx := Bd.exec
  have hby := Bd.bytes
  have hml : c.maxLocals = 7 := hml0
  have hown : s.vm.findClass "java/lang/StringUTF16" = some m.cls := findClass_of_methodNamed Bd.named
  have hnm := (name_of_methodNamed Bd.named Bd.method).1
  have X0 : Stand p l e ({ frames := 0, cells := 0, slots := 0, locals := 0 } : Room) s m #[(.ref a1), (.int (0 : Int32)), (.ref a2), (.int (0 : Int32)), (.int (1 : Int32))] below meth c s₁ [] 0 0 := Stand.of_body Bd
  have e0 : s₁.heap = h0 := by rw [← hh, Bd.state]; rfl
  have N0 := Fr.nil n0
  refine Goes.via (next := s₁.setTop (mkF m 0 #[.val (.ref a1), .val (.int (0 : Int32)), .val (.ref a2), .val (.int (0 : Int32)), .val (.int (1 : Int32)), .unset, .unset] [])) (fun t k => castTop (ef_5_1 m a1 a2) k) ?_
  refine Goes.via (fun t k => XS.iconst X0.here hx rfl (hb hby d5_1_0) k) ?_
  show Goes p e below (s₁.setTop (mkF m 1 #[.val (.ref a1), .val (.int (0 : Int32)), .val (.ref a2), .val (.int (0 : Int32)), .val (.int (1 : Int32)), .unset, .unset] [(.int (0 : Int32))])) _
  refine Goes.via (fun t k => XS.istore X0.here hx rfl (hb hby d5_1_1) rfl (l' := #[.val (.ref a1), .val (.int (0 : Int32)), .val (.ref a2), .val (.int (0 : Int32)), .val (.int (1 : Int32)), .val (.int (0 : Int32)), .unset]) rfl k) ?_
  show Goes p e below (s₁.setTop (mkF m 3 #[.val (.ref a1), .val (.int (0 : Int32)), .val (.ref a2), .val (.int (0 : Int32)), .val (.int (1 : Int32)), .val (.int (0 : Int32)), .unset] [])) _
  refine Goes.via (fun t k => XS.iload X0.here hx rfl (hb hby d5_1_3) rfl k) ?_
  show Goes p e below (s₁.setTop (mkF m 5 #[.val (.ref a1), .val (.int (0 : Int32)), .val (.ref a2), .val (.int (0 : Int32)), .val (.int (1 : Int32)), .val (.int (0 : Int32)), .unset] [(.int (0 : Int32))])) _
  refine Goes.via (fun t k => XS.iload X0.here hx rfl (hb hby d5_1_5) rfl k) ?_
  show Goes p e below (s₁.setTop (mkF m 7 #[.val (.ref a1), .val (.int (0 : Int32)), .val (.ref a2), .val (.int (0 : Int32)), .val (.int (1 : Int32)), .val (.int (0 : Int32)), .unset] [(.int (1 : Int32)), (.int (0 : Int32))])) _
  refine Goes.via (fun t k => XS.icmpNo X0.here hx rfl (hb hby d5_1_7) rfl (tlt (show (0 : Int32) < (1 : Int32) from (by decide))).2.1 k) ?_
  show Goes p e below (s₁.setTop (mkF m 10 #[.val (.ref a1), .val (.int (0 : Int32)), .val (.ref a2), .val (.int (0 : Int32)), .val (.int (1 : Int32)), .val (.int (0 : Int32)), .unset] [])) _
  refine Goes.via (fun t k => XS.aloadN X0.here hx rfl (hb hby d5_1_10) rfl rfl k) ?_
  show Goes p e below (s₁.setTop (mkF m 11 #[.val (.ref a1), .val (.int (0 : Int32)), .val (.ref a2), .val (.int (0 : Int32)), .val (.int (1 : Int32)), .val (.int (0 : Int32)), .unset] [(.ref a1)])) _
  refine Goes.via (fun t k => XS.iloadN X0.here hx rfl (hb hby d5_1_11) rfl k) ?_
  show Goes p e below (s₁.setTop (mkF m 12 #[.val (.ref a1), .val (.int (0 : Int32)), .val (.ref a2), .val (.int (0 : Int32)), .val (.int (1 : Int32)), .val (.int (0 : Int32)), .unset] [(.int (0 : Int32)), (.ref a1)])) _
  obtain ⟨cl1, Ar1, qa1, Sa1, Na1, Ha1, Ga1⟩ := id V1
  have hin1 : ¬ ((0 : Int32) < 0 ∨ cl1.slots.size ≤ ((0 : Int32)).toNatClampNeg) := inb_of Sa1 ⟨by decide, by decide⟩
  have hat1 : cl1.slots[((0 : Int32)).toNatClampNeg]? = some (.int c0) := Ha1.at hin1 rfl
  refine Goes.via (fun t k => X0.caload hx (j := (0 : Int32)) (v := (.int c0)) (by rw [e0]; exact Ar1.1) (State.isArrayOf_alike hZ.alike Ar1.2.1) Ar1.2.2 hin1 hat1 (g := (mkF m 12 #[.val (.ref a1), .val (.int (0 : Int32)), .val (.ref a2), .val (.int (0 : Int32)), .val (.int (1 : Int32)), .val (.int (0 : Int32)), .unset] [(.int (0 : Int32)), (.ref a1)])) rfl rfl (hb hby d5_1_12) _ k) ?_
  show Goes p e below (s₁.setTop (mkF m 13 #[.val (.ref a1), .val (.int (0 : Int32)), .val (.ref a2), .val (.int (0 : Int32)), .val (.int (1 : Int32)), .val (.int (0 : Int32)), .unset] [(.int c0)])) _
  refine Goes.via (fun t k => XS.istore X0.here hx rfl (hb hby d5_1_13) rfl (l' := #[.val (.ref a1), .val (.int (0 : Int32)), .val (.ref a2), .val (.int (0 : Int32)), .val (.int (1 : Int32)), .val (.int (0 : Int32)), .val (.int c0)]) rfl k) ?_
  show Goes p e below (s₁.setTop (mkF m 15 #[.val (.ref a1), .val (.int (0 : Int32)), .val (.ref a2), .val (.int (0 : Int32)), .val (.int (1 : Int32)), .val (.int (0 : Int32)), .val (.int c0)] [])) _
  refine Goes.via (fun t k => XS.iload X0.here hx rfl (hb hby d5_1_15) rfl k) ?_
  show Goes p e below (s₁.setTop (mkF m 17 #[.val (.ref a1), .val (.int (0 : Int32)), .val (.ref a2), .val (.int (0 : Int32)), .val (.int (1 : Int32)), .val (.int (0 : Int32)), .val (.int c0)] [(.int c0)])) _
  refine Goes.via (fun t k => XS.sipush X0.here hx rfl (hb hby d5_1_17) k) ?_
  show Goes p e below (s₁.setTop (mkF m 20 #[.val (.ref a1), .val (.int (0 : Int32)), .val (.ref a2), .val (.int (0 : Int32)), .val (.int (1 : Int32)), .val (.int (0 : Int32)), .val (.int c0)] [(.int (255 : Int32)), (.int c0)])) _
  refine Goes.via (fun t k => XS.icmpYes X0.here hx rfl (pc0 := 20) (pc' := 26) rfl (hb hby d5_1_20) rfl (flt hc0).2.2.2 (by decide) (by decide) k) ?_
  show Goes p e below (s₁.setTop (mkF m 26 #[.val (.ref a1), .val (.int (0 : Int32)), .val (.ref a2), .val (.int (0 : Int32)), .val (.int (1 : Int32)), .val (.int (0 : Int32)), .val (.int c0)] [])) _
  refine Goes.via (fun t k => XS.aloadN X0.here hx rfl (hb hby d5_1_26) rfl rfl k) ?_
  show Goes p e below (s₁.setTop (mkF m 27 #[.val (.ref a1), .val (.int (0 : Int32)), .val (.ref a2), .val (.int (0 : Int32)), .val (.int (1 : Int32)), .val (.int (0 : Int32)), .val (.int c0)] [(.ref a2)])) _
  refine Goes.via (fun t k => XS.iloadN X0.here hx rfl (hb hby d5_1_27) rfl k) ?_
  show Goes p e below (s₁.setTop (mkF m 28 #[.val (.ref a1), .val (.int (0 : Int32)), .val (.ref a2), .val (.int (0 : Int32)), .val (.int (1 : Int32)), .val (.int (0 : Int32)), .val (.int c0)] [(.int (0 : Int32)), (.ref a2)])) _
  refine Goes.via (fun t k => XS.iload X0.here hx rfl (hb hby d5_1_28) rfl k) ?_
  show Goes p e below (s₁.setTop (mkF m 30 #[.val (.ref a1), .val (.int (0 : Int32)), .val (.ref a2), .val (.int (0 : Int32)), .val (.int (1 : Int32)), .val (.int (0 : Int32)), .val (.int c0)] [(.int c0), (.int (0 : Int32)), (.ref a2)])) _
  refine Goes.via (fun t k => XS.i2b X0.here hx rfl (hb hby d5_1_30) rfl k) ?_
  show Goes p e below (s₁.setTop (mkF m 31 #[.val (.ref a1), .val (.int (0 : Int32)), .val (.ref a2), .val (.int (0 : Int32)), .val (.int (1 : Int32)), .val (.int (0 : Int32)), .val (.int c0)] [(.int (c0.toInt8.toInt32)), (.int (0 : Int32)), (.ref a2)])) _
  obtain ⟨cl2, Ar2, qa2, Sa2, Na2, Ha2, Ga2⟩ := V2
  have hin2 : ¬ ((0 : Int32) < 0 ∨ cl2.slots.size ≤ ((0 : Int32)).toNatClampNeg) := inb_of Sa2 ⟨by decide, by decide⟩
  obtain ⟨T2, h2, X2, e2, W2, st2⟩ := stB X0 hx hZ e0 Ar2 (j := (0 : Int32)) hin2 (g := (mkF m 31 #[.val (.ref a1), .val (.int (0 : Int32)), .val (.ref a2), .val (.int (0 : Int32)), .val (.int (1 : Int32)), .val (.int (0 : Int32)), .val (.int c0)] [(.int (c0.toInt8.toInt32)), (.int (0 : Int32)), (.ref a2)])) rfl rfl (hb hby d5_1_31)
  have V2 : Arv Z h2 a2 k2 .byte (1 : Int32) [(.int (nar .byte (c0.toInt8.toInt32)))] (.int (0 : Int32)) := Arv.set Ar2 qa2 Sa2 Na2 Ha2 Ga2 (fits_nar_byte _) W2 0 rfl (Nat.le_of_ble_eq_true rfl)
  have F2_39 := V1.other W2 (Nat.ne_of_lt lt12)
  have K2 : Keep h0 h2 [a2] := (Keep.refl h0 [a2]).wr W2 (Or.inl (List.mem_of_getElem? (i := 0) rfl))
  have Z2 : n0 ≤ h2.size := Nat.le_trans Z0 (Keep.of_wr W2).1
  have N2 := Fr.snoc X2 N0 g2
  refine Goes.via st2 ?_
  show Goes p e below (T2.setTop (mkF m 32 #[.val (.ref a1), .val (.int (0 : Int32)), .val (.ref a2), .val (.int (0 : Int32)), .val (.int (1 : Int32)), .val (.int (0 : Int32)), .val (.int c0)] [])) _
  refine Goes.via (fun t k => XS.iinc X2.here hx rfl (hb hby d5_1_32) rfl (l' := #[.val (.ref a1), .val (.int (1 : Int32)), .val (.ref a2), .val (.int (0 : Int32)), .val (.int (1 : Int32)), .val (.int (0 : Int32)), .val (.int c0)]) rfl k) ?_
  show Goes p e below (T2.setTop (mkF m 35 #[.val (.ref a1), .val (.int (1 : Int32)), .val (.ref a2), .val (.int (0 : Int32)), .val (.int (1 : Int32)), .val (.int (0 : Int32)), .val (.int c0)] [])) _
  refine Goes.via (fun t k => XS.iinc X2.here hx rfl (hb hby d5_1_35) rfl (l' := #[.val (.ref a1), .val (.int (1 : Int32)), .val (.ref a2), .val (.int (1 : Int32)), .val (.int (1 : Int32)), .val (.int (0 : Int32)), .val (.int c0)]) rfl k) ?_
  show Goes p e below (T2.setTop (mkF m 38 #[.val (.ref a1), .val (.int (1 : Int32)), .val (.ref a2), .val (.int (1 : Int32)), .val (.int (1 : Int32)), .val (.int (0 : Int32)), .val (.int c0)] [])) _
  refine Goes.via (fun t k => XS.iinc X2.here hx rfl (hb hby d5_1_38) rfl (l' := #[.val (.ref a1), .val (.int (1 : Int32)), .val (.ref a2), .val (.int (1 : Int32)), .val (.int (1 : Int32)), .val (.int (1 : Int32)), .val (.int c0)]) rfl k) ?_
  show Goes p e below (T2.setTop (mkF m 41 #[.val (.ref a1), .val (.int (1 : Int32)), .val (.ref a2), .val (.int (1 : Int32)), .val (.int (1 : Int32)), .val (.int (1 : Int32)), .val (.int c0)] [])) _
  refine Goes.via (fun t k => XS.goto X2.here hx rfl (pc0 := 41) (pc' := 3) rfl (hb hby d5_1_41) (by decide) (by decide) k) ?_
  show Goes p e below (T2.setTop (mkF m 3 #[.val (.ref a1), .val (.int (1 : Int32)), .val (.ref a2), .val (.int (1 : Int32)), .val (.int (1 : Int32)), .val (.int (1 : Int32)), .val (.int c0)] [])) _
  refine Goes.via (fun t k => XS.iload X2.here hx rfl (hb hby d5_1_3) rfl k) ?_
  show Goes p e below (T2.setTop (mkF m 5 #[.val (.ref a1), .val (.int (1 : Int32)), .val (.ref a2), .val (.int (1 : Int32)), .val (.int (1 : Int32)), .val (.int (1 : Int32)), .val (.int c0)] [(.int (1 : Int32))])) _
  refine Goes.via (fun t k => XS.iload X2.here hx rfl (hb hby d5_1_5) rfl k) ?_
  show Goes p e below (T2.setTop (mkF m 7 #[.val (.ref a1), .val (.int (1 : Int32)), .val (.ref a2), .val (.int (1 : Int32)), .val (.int (1 : Int32)), .val (.int (1 : Int32)), .val (.int c0)] [(.int (1 : Int32)), (.int (1 : Int32))])) _
  refine Goes.via (fun t k => XS.icmpYes X2.here hx rfl (pc0 := 7) (pc' := 44) rfl (hb hby d5_1_7) rfl (flt (show ¬ ((1 : Int32) < (1 : Int32)) from (by decide))).2.1 (by decide) (by decide) k) ?_
  show Goes p e below (T2.setTop (mkF m 44 #[.val (.ref a1), .val (.int (1 : Int32)), .val (.ref a2), .val (.int (1 : Int32)), .val (.int (1 : Int32)), .val (.int (1 : Int32)), .val (.int c0)] [])) _
  refine Goes.via (fun t k => XS.iload X2.here hx rfl (hb hby d5_1_44) rfl k) ?_
  show Goes p e below (T2.setTop (mkF m 46 #[.val (.ref a1), .val (.int (1 : Int32)), .val (.ref a2), .val (.int (1 : Int32)), .val (.int (1 : Int32)), .val (.int (1 : Int32)), .val (.int c0)] [(.int (1 : Int32))])) _
  obtain ⟨fs, hr, hrun, hended, hW, hsame⟩ := X2.leave (v := some (.int (1 : Int32))) (fun h => by rw [Bd.returns] at h; cases h)
  refine ⟨_, _, ?_, hrun, hended, _, _, rfl, ?_, ⟨_, rfl⟩, hW, hsame.mono (by decide) (by decide)⟩
  · exact retI X2 hx Bd.returns (hb hby d5_1_46) hr
  · show Q5_1 Z a2 k2 c0 h0 n0 _ T2.heap _
    rw [e2]
    exact ⟨rfl, N2, K2, V2⟩
theorem d4_1_0 : decode jdk_52_method_16_code 0 = .ok (.iload_n 2, 1) := by decide +kernel
theorem d4_1_1 : decode jdk_52_method_16_code 1 = .ok (.newarray .byte, 2) := by decide +kernel
theorem d4_1_3 : decode jdk_52_method_16_code 3 = .ok (.astore_n 3, 1) := by decide +kernel
theorem d4_1_4 : decode jdk_52_method_16_code 4 = .ok (.aload_n 0, 1) := by decide +kernel
theorem d4_1_5 : decode jdk_52_method_16_code 5 = .ok (.iload_n 1, 1) := by decide +kernel
theorem d4_1_6 : decode jdk_52_method_16_code 6 = .ok (.aload_n 3, 1) := by decide +kernel
theorem d4_1_7 : decode jdk_52_method_16_code 7 = .ok (.iconst 0, 1) := by decide +kernel
theorem d4_1_8 : decode jdk_52_method_16_code 8 = .ok (.iload_n 2, 1) := by decide +kernel
theorem d4_1_9 : decode jdk_52_method_16_code 9 = .ok (.invokestatic 115, 3) := by decide +kernel
theorem d4_1_12 : decode jdk_52_method_16_code 12 = .ok (.istore 4, 2) := by decide +kernel
theorem d4_1_14 : decode jdk_52_method_16_code 14 = .ok (.iload 4, 2) := by decide +kernel
theorem d4_1_16 : decode jdk_52_method_16_code 16 = .ok (.iload_n 2, 1) := by decide +kernel
theorem d4_1_17 : decode jdk_52_method_16_code 17 = .ok (.if_icmp .eq 40, 3) := by decide +kernel
theorem d4_1_57 : decode jdk_52_method_16_code 57 = .ok (.aload_n 3, 1) := by decide +kernel
theorem d4_1_58 : decode jdk_52_method_16_code 58 = .ok (.areturn, 1) := by decide +kernel
theorem pn_4_1 : plainName "java/lang/StringUTF16" = true := by first | (simp [plainName, overriddenIn]; done) | decide +kernel
theorem pd_4_1_0 : parseMethodDescriptor "([CI[BII)I" = some ⟨[(.array .char), .int, (.array .byte), .int, .int], some .int⟩ := by decide +kernel
theorem ef_4_1 (m : MethodId) (x0 : Addr) : entryFrame m #[(.ref x0), (.int (0 : Int32)), (.int (1 : Int32))] 6 = mkF m 0 #[.val (.ref x0), .val (.int (0 : Int32)), .val (.int (1 : Int32)), .unset, .unset, .unset] [] := by first | (simp [entryFrame, mkF, argsToLocals, Value.category]; done) | rfl
def Q4_1 (Z : State) (c0 : Int32) (h0 : Heap) (n0 : Nat) (v : Option Value) (h : Heap) (L : List Loc) : Prop := ∃ (t : Addr) (k : ClassId), v = some (.ref t) ∧ Fr n0 L ∧ n0 ≤ t ∧ h0.size ≤ t ∧ Keep h0 h [] ∧ Arv Z h t k .byte (1 : Int32) [(.int (nar .byte (c0.toInt8.toInt32)))] (.int (0 : Int32))
set_option maxRecDepth 65536 in
set_option maxHeartbeats 40000000 in
theorem rm4_1 (l : Launch) (Z : State) (a0 : Array Value) (hw : ∀ d ∈ tables_1, d.before a0 Z = true) (ws : List Jvm.Cond) (a1 : Addr) (k1 : ClassId) (c0 : Int32) (h0 : Heap) (n0 : Nat) (Z0 : n0 ≤ h0.size) (V1 : Arv Z h0 a1 k1 .char (1 : Int32) [(.int c0)] (.int (0 : Int32))) (hc0 : ¬ ((255 : Int32) < c0)) :
    MetFree l (⟨"java/lang/StringUTF16", "compress", "([CII)[B"⟩ : MethodName) (head1 (Jvm.Cond.code (⟨"java/lang/StringUTF16", "compress", "([CII)[B"⟩ : MethodName) jdk_52_method_16_code 6 (some (.array .byte)) :: ws) ({ frames := 1, cells := 1, slots := 1, locals := 18 } : Room)) (fun a U => a = #[(.ref a1), (.int (0 : Int32)), (.int (1 : Int32))] ∧ Z.Warmed39 U.vm ∧ U.heap = h0) (fun _ _ _ _ _ => True) (fun _ U o U' => ∃ v L, o = .returned v ∧ Q4_1 Z c0 h0 n0 v U'.heap L ∧ FrameEnd U o U' L ({ frames := 1, cells := 1, slots := 1, locals := 18 } : Room).cells ({ frames := 1, cells := 1, slots := 1, locals := 18 } : Room).slots) := by
  refine MetFree.of_bodySF (plainFor_of_name pn_4_1) hisR ?_
  intro p e s m args below meth c s₁ Bd hml0 hP hK
  obtain ⟨rfl, hZ, hh⟩ := hP
  have hx := Bd.exec
  have hby := Bd.bytes
  have hml : c.maxLocals = 6 := hml0
  have hown : s.vm.findClass "java/lang/StringUTF16" = some m.cls := findClass_of_methodNamed Bd.named
  have hnm := (name_of_methodNamed Bd.named Bd.method).1
  have X0 : Stand p l e ({ frames := 1, cells := 1, slots := 1, locals := 18 } : Room) s m #[(.ref a1), (.int (0 : Int32)), (.int (1 : Int32))] below meth c s₁ [] 0 0 := Stand.of_body Bd
  have e0 : s₁.heap = h0 := by rw [← hh, Bd.state]; rfl
  have N0 := Fr.nil n0
  refine Goes.via (next := s₁.setTop (mkF m 0 #[.val (.ref a1), .val (.int (0 : Int32)), .val (.int (1 : Int32)), .unset, .unset, .unset] [])) (fun t k => castTop (ef_4_1 m a1) k) ?_
  refine Goes.via (fun t k => XS.iloadN X0.here hx rfl (hb hby d4_1_0) rfl k) ?_
  show Goes p e below (s₁.setTop (mkF m 1 #[.val (.ref a1), .val (.int (0 : Int32)), .val (.int (1 : Int32)), .unset, .unset, .unset] [(.int (1 : Int32))])) _
  obtain ⟨T1, h1, ka1, X1, e1, E1, A1, st1⟩ := newP X0 hx hZ (hw _ (List.mem_of_getElem? (i := 19) rfl)) e0 (g := (mkF m 1 #[.val (.ref a1), .val (.int (0 : Int32)), .val (.int (1 : Int32)), .unset, .unset, .unset] [(.int (1 : Int32))])) rfl (hb hby d4_1_1) rfl (by decide) (cap := 1) (by decide) (by decide) (by decide) (by decide)
  obtain ⟨b1, g1⟩ : ∃ z, z = h0.size := ⟨_, rfl⟩
  rw [← g1] at A1 st1
  have lt_a1_b1 : a1 < b1 := Nat.lt_of_lt_of_le V1.lt (Nat.le_of_eq g1.symm)
  have ge_b1 : n0 ≤ b1 := Nat.le_trans Z0 (Nat.le_of_eq g1.symm)
  have sz_b1 : h0.size ≤ b1 := Nat.le_trans (Keep.refl h0 []).1 (Nat.le_of_eq g1.symm)
  have F1_8 := V1.ext E1
  have K1 : Keep h0 h1 [] := (Keep.refl h0 []).ext E1
  have Z1 : n0 ≤ h1.size := Nat.le_trans Z0 E1.1
  have V1 : Arv Z h1 b1 ka1 .byte (1 : Int32) [(.int (0 : Int32))] (.int (0 : Int32)) := (Arv.new A1 (by decide)).pad (pad_rep [] (.int (0 : Int32)) 1)
  refine Goes.via st1 ?_
  show Goes p e below (T1.setTop (mkF m 3 #[.val (.ref a1), .val (.int (0 : Int32)), .val (.int (1 : Int32)), .unset, .unset, .unset] [(.ref b1)])) _
  refine Goes.via (fun t k => XS.astoreN X1.here hx rfl (hb hby d4_1_3) rfl rfl (l' := #[.val (.ref a1), .val (.int (0 : Int32)), .val (.int (1 : Int32)), .val (.ref b1), .unset, .unset]) rfl k) ?_
  show Goes p e below (T1.setTop (mkF m 4 #[.val (.ref a1), .val (.int (0 : Int32)), .val (.int (1 : Int32)), .val (.ref b1), .unset, .unset] [])) _
  refine Goes.via (fun t k => XS.aloadN X1.here hx rfl (hb hby d4_1_4) rfl rfl k) ?_
  show Goes p e below (T1.setTop (mkF m 5 #[.val (.ref a1), .val (.int (0 : Int32)), .val (.int (1 : Int32)), .val (.ref b1), .unset, .unset] [(.ref a1)])) _
  refine Goes.via (fun t k => XS.iloadN X1.here hx rfl (hb hby d4_1_5) rfl k) ?_
  show Goes p e below (T1.setTop (mkF m 6 #[.val (.ref a1), .val (.int (0 : Int32)), .val (.int (1 : Int32)), .val (.ref b1), .unset, .unset] [(.int (0 : Int32)), (.ref a1)])) _
  refine Goes.via (fun t k => XS.aloadN X1.here hx rfl (hb hby d4_1_6) rfl rfl k) ?_
  show Goes p e below (T1.setTop (mkF m 7 #[.val (.ref a1), .val (.int (0 : Int32)), .val (.int (1 : Int32)), .val (.ref b1), .unset, .unset] [(.ref b1), (.int (0 : Int32)), (.ref a1)])) _
  refine Goes.via (fun t k => XS.iconst X1.here hx rfl (hb hby d4_1_7) k) ?_
  show Goes p e below (T1.setTop (mkF m 8 #[.val (.ref a1), .val (.int (0 : Int32)), .val (.int (1 : Int32)), .val (.ref b1), .unset, .unset] [(.int (0 : Int32)), (.ref b1), (.int (0 : Int32)), (.ref a1)])) _
  refine Goes.via (fun t k => XS.iloadN X1.here hx rfl (hb hby d4_1_8) rfl k) ?_
  show Goes p e below (T1.setTop (mkF m 9 #[.val (.ref a1), .val (.int (0 : Int32)), .val (.int (1 : Int32)), .val (.ref b1), .unset, .unset] [(.int (1 : Int32)), (.int (0 : Int32)), (.ref b1), (.int (0 : Int32)), (.ref a1)])) _
  obtain ⟨_, _, ⟨T2, L2, k2, n2⟩, -, X2, ⟨Lc2, hQ2, l2, y2, z2⟩, st2⟩ := Jvm.LawKit.callS X1 hx (y := (⟨"java/lang/StringUTF16", "compress", "([CI[BII)I"⟩ : MethodName)) hown (mvT hZ (hw _ (List.mem_of_getElem? (i := 20) rfl))) (mvT hZ (hw _ (List.mem_of_getElem? (i := 21) rfl))) (mvT hZ (hw _ (List.mem_of_getElem? (i := 17) rfl))) (mvT hZ (hw _ (List.mem_of_getElem? (i := 22) rfl))) (by decide) (backOf (W := 0) (rm5_1 l Z a0 hw [] a1 b1 k1 ka1 c0 h1 n0 Z1 F1_8 V1 ge_b1 lt_a1_b1 hc0) hZ (hw _ (List.mem_of_getElem? (i := 22) rfl)) (hw _ (List.mem_of_getElem? (i := 17) rfl)) (by decide) (by decide)) (g := (mkF m 9 #[.val (.ref a1), .val (.int (0 : Int32)), .val (.int (1 : Int32)), .val (.ref b1), .unset, .unset] [(.int (1 : Int32)), (.int (0 : Int32)), (.ref b1), (.int (0 : Int32)), (.ref a1)])) rfl (by rw [hml]; rfl) (argsL := [(.ref a1), (.int (0 : Int32)), (.ref b1), (.int (0 : Int32)), (.int (1 : Int32))]) (rest := []) (lenOf pd_4_1_0 rfl) rfl (by show 2 * 0 + _ ≤ _; exact Nat.le_of_eq rfl) (hb hby d4_1_9) (fun _ _ => ⟨rfl, e1, (by decide : 1 + 0 ≤ _), (by decide : 1 + 0 ≤ _)⟩)
  dsimp only [Pt.U, Pt.locs, Pt.cells, Pt.slots] at X2 l2 y2 z2 st2 hQ2
  subst l2 y2 z2
  obtain ⟨rfl, N2q, Kc2, Vc2⟩ := hQ2
  have F2_30 := F1_8.keep Kc2 (fun q => (Nat.ne_of_lt lt_a1_b1) (List.mem_singleton.mp q))
  have K2 : Keep h0 T2.heap [] := K1.trans Kc2 (fun x hx => by cases List.mem_singleton.mp hx; exact Or.inr sz_b1)
  have Z2 : n0 ≤ T2.heap.size := Nat.le_trans Z1 Kc2.1
  have N2 := Fr.app N0 N2q
  refine Goes.via st2 ?_
  show Goes p e below (T2.setTop (mkF m 12 #[.val (.ref a1), .val (.int (0 : Int32)), .val (.int (1 : Int32)), .val (.ref b1), .unset, .unset] [(.int (1 : Int32))])) _
  refine Goes.via (fun t k => XS.istore X2.here hx rfl (hb hby d4_1_12) rfl (l' := #[.val (.ref a1), .val (.int (0 : Int32)), .val (.int (1 : Int32)), .val (.ref b1), .val (.int (1 : Int32)), .unset]) rfl k) ?_
  show Goes p e below (T2.setTop (mkF m 14 #[.val (.ref a1), .val (.int (0 : Int32)), .val (.int (1 : Int32)), .val (.ref b1), .val (.int (1 : Int32)), .unset] [])) _
  refine Goes.via (fun t k => XS.iload X2.here hx rfl (hb hby d4_1_14) rfl k) ?_
  show Goes p e below (T2.setTop (mkF m 16 #[.val (.ref a1), .val (.int (0 : Int32)), .val (.int (1 : Int32)), .val (.ref b1), .val (.int (1 : Int32)), .unset] [(.int (1 : Int32))])) _
  refine Goes.via (fun t k => XS.iloadN X2.here hx rfl (hb hby d4_1_16) rfl k) ?_
  show Goes p e below (T2.setTop (mkF m 17 #[.val (.ref a1), .val (.int (0 : Int32)), .val (.int (1 : Int32)), .val (.ref b1), .val (.int (1 : Int32)), .unset] [(.int (1 : Int32)), (.int (1 : Int32))])) _
  refine Goes.via (fun t k => XS.icmpYes X2.here hx rfl (pc0 := 17) (pc' := 57) rfl (hb hby d4_1_17) rfl (teq (show (1 : Int32) = (1 : Int32) from rfl)).1 (by decide) (by decide) k) ?_
  show Goes p e below (T2.setTop (mkF m 57 #[.val (.ref a1), .val (.int (0 : Int32)), .val (.int (1 : Int32)), .val (.ref b1), .val (.int (1 : Int32)), .unset] [])) _
  refine Goes.via (fun t k => XS.aloadN X2.here hx rfl (hb hby d4_1_57) rfl rfl k) ?_
  show Goes p e below (T2.setTop (mkF m 58 #[.val (.ref a1), .val (.int (0 : Int32)), .val (.int (1 : Int32)), .val (.ref b1), .val (.int (1 : Int32)), .unset] [(.ref b1)])) _
  obtain ⟨fs, hr, hrun, hended, hW, hsame⟩ := X2.leave (v := some (.ref b1)) (fun h => by rw [Bd.returns] at h; cases h)
  refine ⟨_, _, ?_, hrun, hended, _, _, rfl, ?_, ⟨_, rfl⟩, hW, hsame.mono (by decide) (by decide)⟩
  · exact retOut X2 hx (t := (.array .byte)) Bd.returns rfl (Or.inr (Or.inr (Or.inr (Or.inr ⟨rfl, rfl, rfl⟩)))) (hb hby d4_1_58) hr
  · exact ⟨b1, _, rfl, N2, ge_b1, sz_b1, K2, Vc2⟩
theorem d6_1_0 : decode jdk_52_method_15_code 0 = .ok (.iload_n 1, 1) := by decide +kernel
theorem d6_1_1 : decode jdk_52_method_15_code 1 = .ok (.aload_n 0, 1) := by decide +kernel
theorem d6_1_2 : decode jdk_52_method_15_code 2 = .ok (.arraylength, 1) := by decide +kernel
theorem d6_1_3 : decode jdk_52_method_15_code 3 = .ok (.isub, 1) := by decide +kernel
theorem d6_1_4 : decode jdk_52_method_15_code 4 = .ok (.bipush 31, 2) := by decide +kernel
theorem d6_1_6 : decode jdk_52_method_15_code 6 = .ok (.iushr, 1) := by decide +kernel
theorem d6_1_7 : decode jdk_52_method_15_code 7 = .ok (.i2b, 1) := by decide +kernel
theorem d6_1_8 : decode jdk_52_method_15_code 8 = .ok (.ireturn, 1) := by decide +kernel
theorem pn_6_1 : plainName "java/lang/StringUTF16" = true := by first | (simp [plainName, overriddenIn]; done) | decide +kernel
theorem ef_6_1 (m : MethodId) (x0 : Addr) : entryFrame m #[(.ref x0), (.int (1 : Int32))] 2 = mkF m 0 #[.val (.ref x0), .val (.int (1 : Int32))] [] := by first | (simp [entryFrame, mkF, argsToLocals, Value.category]; done) | rfl
def Q6_1 (Z : State) (h0 : Heap) (n0 : Nat) (v : Option Value) (h : Heap) (L : List Loc) : Prop := v = some (.int (0 : Int32)) ∧ Fr n0 L ∧ h = h0
set_option maxRecDepth 65536 in
set_option maxHeartbeats 40000000 in
theorem rm6_1 (l : Launch) (Z : State) (a0 : Array Value) (hw : ∀ d ∈ tables_1, d.before a0 Z = true) (ws : List Jvm.Cond) (a1 : Addr) (k1 : ClassId) (vs : List Value) (h0 : Heap) (n0 : Nat) (Z0 : n0 ≤ h0.size) (V1 : Arv Z h0 a1 k1 .byte (1 : Int32) vs (.int (0 : Int32))) :
    MetFree l (⟨"java/lang/StringUTF16", "coderFromArrayLen", "([BI)B"⟩ : MethodName) (head1 (Jvm.Cond.code (⟨"java/lang/StringUTF16", "coderFromArrayLen", "([BI)B"⟩ : MethodName) jdk_52_method_15_code 2 (some .byte) :: ws) ({ frames := 0, cells := 0, slots := 0, locals := 0 } : Room)) (fun a U => a = #[(.ref a1), (.int (1 : Int32))] ∧ Z.Warmed39 U.vm ∧ U.heap = h0) (fun _ _ _ _ _ => True) (fun _ U o U' => ∃ v L, o = .returned v ∧ Q6_1 Z  h0 n0 v U'.heap L ∧ FrameEnd U o U' L ({ frames := 0, cells := 0, slots := 0, locals := 0 } : Room).cells ({ frames := 0, cells := 0, slots := 0, locals := 0 } : Room).slots) := by
  refine MetFree.of_bodySF (plainFor_of_name pn_6_1) hisR ?_
  intro p e s m args below meth c s₁ Bd hml0 hP hK
  obtain ⟨rfl, hZ, hh⟩ := hP
  have hx := Bd.exec
  have hby := Bd.bytes
  have hml : c.maxLocals = 2 := hml0
  have hown : s.vm.findClass "java/lang/StringUTF16" = some m.cls := findClass_of_methodNamed Bd.named
  have hnm := (name_of_methodNamed Bd.named Bd.method).1
  have X0 : Stand p l e ({ frames := 0, cells := 0, slots := 0, locals := 0 } : Room) s m #[(.ref a1), (.int (1 : Int32))] below meth c s₁ [] 0 0 := Stand.of_body Bd
  have e0 : s₁.heap = h0 := by rw [← hh, Bd.state]; rfl
  have N0 := Fr.nil n0
  refine Goes.via (next := s₁.setTop (mkF m 0 #[.val (.ref a1), .val (.int (1 : Int32))] [])) (fun t k => castTop (ef_6_1 m a1) k) ?_
  refine Goes.via (fun t k => XS.iloadN X0.here hx rfl (hb hby d6_1_0) rfl k) ?_
  show Goes p e below (s₁.setTop (mkF m 1 #[.val (.ref a1), .val (.int (1 : Int32))] [(.int (1 : Int32))])) _
  refine Goes.via (fun t k => XS.aloadN X0.here hx rfl (hb hby d6_1_1) rfl rfl k) ?_
  show Goes p e below (s₁.setTop (mkF m 2 #[.val (.ref a1), .val (.int (1 : Int32))] [(.ref a1), (.int (1 : Int32))])) _
  obtain ⟨cl1, Ar1, -, Sa1, Na1, -, -⟩ := id V1
  refine Goes.via (next := s₁.setTop (mkF m 3 #[.val (.ref a1), .val (.int (1 : Int32))] [(.int (1 : Int32)), (.int (1 : Int32))])) (fun t k => X0.arraylength hx (by rw [e0]; exact Ar1.1) (State.isArrayOf_alike hZ.alike Ar1.2.1) (g := (mkF m 2 #[.val (.ref a1), .val (.int (1 : Int32))] [(.ref a1), (.int (1 : Int32))])) rfl rfl (hb hby d6_1_2) _ (by rw [len_of Sa1 Na1]; exact k)) ?_
  show Goes p e below (s₁.setTop (mkF m 3 #[.val (.ref a1), .val (.int (1 : Int32))] [(.int (1 : Int32)), (.int (1 : Int32))])) _
  refine Goes.via (fun t k => XS.isub X0.here hx rfl (hb hby d6_1_3) rfl k) ?_
  show Goes p e below (s₁.setTop (mkF m 4 #[.val (.ref a1), .val (.int (1 : Int32))] [(.int (0 : Int32))])) _
  refine Goes.via (fun t k => XS.bipush X0.here hx rfl (hb hby d6_1_4) k) ?_
  show Goes p e below (s₁.setTop (mkF m 6 #[.val (.ref a1), .val (.int (1 : Int32))] [(.int (31 : Int32)), (.int (0 : Int32))])) _
  refine Goes.via (fun t k => XS.iushr X0.here hx rfl (hb hby d6_1_6) rfl k) ?_
  show Goes p e below (s₁.setTop (mkF m 7 #[.val (.ref a1), .val (.int (1 : Int32))] [(.int (0 : Int32))])) _
  refine Goes.via (fun t k => XS.i2b X0.here hx rfl (hb hby d6_1_7) rfl k) ?_
  show Goes p e below (s₁.setTop (mkF m 8 #[.val (.ref a1), .val (.int (1 : Int32))] [(.int (0 : Int32))])) _
  obtain ⟨fs, hr, hrun, hended, hW, hsame⟩ := X0.leave (v := some (.int (0 : Int32))) (fun h => by rw [Bd.returns] at h; cases h)
  refine ⟨_, _, ?_, hrun, hended, _, _, rfl, ?_, ⟨_, rfl⟩, hW, hsame.mono (by decide) (by decide)⟩
  · exact retN X0 hx (t := .byte) Bd.returns (by simp) (hb hby d6_1_8) hr
  · show Q6_1 Z  h0 n0 _ s₁.heap _
    rw [e0]
    exact ⟨rfl, N0, rfl⟩
theorem d2_1_0 : decode jdk_42_method_149_code 0 = .ok (.aload_n 0, 1) := by decide +kernel
theorem d2_1_1 : decode jdk_42_method_149_code 1 = .ok (.invokespecial 1, 3) := by decide +kernel
theorem d2_1_4 : decode jdk_42_method_149_code 4 = .ok (.iload_n 3, 1) := by decide +kernel
theorem d2_1_5 : decode jdk_42_method_149_code 5 = .ok (.ifCond .ne 22, 3) := by decide +kernel
theorem d2_1_27 : decode jdk_42_method_149_code 27 = .ok (.getstatic 38, 3) := by decide +kernel
theorem d2_1_30 : decode jdk_42_method_149_code 30 = .ok (.ifCond .eq 28, 3) := by decide +kernel
theorem d2_1_33 : decode jdk_42_method_149_code 33 = .ok (.aload_n 1, 1) := by decide +kernel
theorem d2_1_34 : decode jdk_42_method_149_code 34 = .ok (.iload_n 2, 1) := by decide +kernel
theorem d2_1_35 : decode jdk_42_method_149_code 35 = .ok (.iload_n 3, 1) := by decide +kernel
theorem d2_1_36 : decode jdk_42_method_149_code 36 = .ok (.invokestatic 177, 3) := by decide +kernel
theorem d2_1_39 : decode jdk_42_method_149_code 39 = .ok (.astore 5, 2) := by decide +kernel
theorem d2_1_41 : decode jdk_42_method_149_code 41 = .ok (.aload_n 0, 1) := by decide +kernel
theorem d2_1_42 : decode jdk_42_method_149_code 42 = .ok (.aload 5, 2) := by decide +kernel
theorem d2_1_44 : decode jdk_42_method_149_code 44 = .ok (.iload_n 3, 1) := by decide +kernel
theorem d2_1_45 : decode jdk_42_method_149_code 45 = .ok (.invokestatic 47, 3) := by decide +kernel
theorem d2_1_48 : decode jdk_42_method_149_code 48 = .ok (.putfield 15, 3) := by decide +kernel
theorem d2_1_51 : decode jdk_42_method_149_code 51 = .ok (.aload_n 0, 1) := by decide +kernel
theorem d2_1_52 : decode jdk_42_method_149_code 52 = .ok (.aload 5, 2) := by decide +kernel
theorem d2_1_54 : decode jdk_42_method_149_code 54 = .ok (.putfield 9, 3) := by decide +kernel
theorem d2_1_57 : decode jdk_42_method_149_code 57 = .ok (.return_, 1) := by decide +kernel
theorem pn_2_1 : plainName "java/lang/String" = true := by first | (simp [plainName, overriddenIn]; done) | decide +kernel
theorem pd_2_1_0 : parseMethodDescriptor "([CII)[B" = some ⟨[(.array .char), .int, .int], some (.array .byte)⟩ := by decide +kernel
theorem pd_2_1_1 : parseMethodDescriptor "([BI)B" = some ⟨[(.array .byte), .int], some .byte⟩ := by decide +kernel
theorem ef_2_1 (m : MethodId) (x0 : Addr) (x1 : Addr) : entryFrame m #[(.ref x0), (.ref x1), (.int (0 : Int32)), (.int (1 : Int32)), .null] 6 = mkF m 0 #[.val (.ref x0), .val (.ref x1), .val (.int (0 : Int32)), .val (.int (1 : Int32)), .val .null, .unset] [] := by first | (simp [entryFrame, mkF, argsToLocals, Value.category]; done) | rfl
def Q2_1 (Z : State) (a1 : Addr) (c0 : Int32) (h0 : Heap) (n0 : Nat) (v : Option Value) (h : Heap) (L : List Loc) : Prop := v = none ∧ Fr n0 L ∧ Keep h0 h [a1] ∧ Exa Z h a1 "java/lang/String" ∧ Fld Z h a1 "java/lang/String" "coder" "B" (.int (0 : Int32)) ∧ ∃ (t : Addr) (k : ClassId), n0 ≤ t ∧ h0.size ≤ t ∧ Fld Z h a1 "java/lang/String" "value" "[B" (.ref t) ∧ Arv Z h t k .byte (1 : Int32) [(.int (nar .byte (c0.toInt8.toInt32)))] (.int (0 : Int32))
set_option maxRecDepth 65536 in
set_option maxHeartbeats 40000000 in
theorem rm2_1 (l : Launch) (Z : State) (a0 : Array Value) (hw : ∀ d ∈ tables_1, d.before a0 Z = true) (ws : List Jvm.Cond) (a1 : Addr) (a2 : Addr) (k2 : ClassId) (c0 : Int32) (w0 : Int32) (h0 : Heap) (n0 : Nat) (Z0 : n0 ≤ h0.size) (E1 : Exa Z h0 a1 "java/lang/String") (Fv : Fld Z h0 a1 "java/lang/String" "value" "[B" .null) (Fc : Fld Z h0 a1 "java/lang/String" "coder" "B" (.int (0 : Int32))) (V2 : Arv Z h0 a2 k2 .char (1 : Int32) [(.int c0)] (.int (0 : Int32))) (g1 : n0 ≤ a1) (ne12 : a1 ≠ a2) (O0 : Old Z n0 h0) (St : own_St Z w0) (hc0 : ¬ ((255 : Int32) < c0)) :
    MetFree l (⟨"java/lang/String", "<init>", "([CIILjava/lang/Void;)V"⟩ : MethodName) (head1 (Jvm.Cond.code (⟨"java/lang/String", "<init>", "([CIILjava/lang/Void;)V"⟩ : MethodName) jdk_42_method_149_code 6 none :: ws) ({ frames := 2, cells := 1, slots := 1, locals := 35 } : Room)) (fun a U => a = #[(.ref a1), (.ref a2), (.int (0 : Int32)), (.int (1 : Int32)), .null] ∧ Z.Warmed39 U.vm ∧ U.heap = h0) (fun _ _ _ _ _ => True) (fun _ U o U' => ∃ v L, o = .returned v ∧ Q2_1 Z a1 c0 h0 n0 v U'.heap L ∧ FrameEnd U o U' L ({ frames := 2, cells := 1, slots := 1, locals := 35 } : Room).cells ({ frames := 2, cells := 1, slots := 1, locals := 35 } : Room).slots) := by
  refine MetFree.of_bodySF (plainFor_of_name pn_2_1) hisR ?_
  intro p e s m args below meth c s₁ Bd hml0 hP hK
  obtain ⟨rfl, hZ, hh⟩ := hP
  have hx := Bd.exec
  have hby := Bd.bytes
  have hml : c.maxLocals = 6 := hml0
  have hown : s.vm.findClass "java/lang/String" = some m.cls := findClass_of_methodNamed Bd.named
  have hnm := (name_of_methodNamed Bd.named Bd.method).1
  have X0 : Stand p l e ({ frames := 2, cells := 1, slots := 1, locals := 35 } : Room) s m #[(.ref a1), (.ref a2), (.int (0 : Int32)), (.int (1 : Int32)), .null] below meth c s₁ [] 0 0 := Stand.of_body Bd
  have e0 : s₁.heap = h0 := by rw [← hh, Bd.state]; rfl
  have N0 := Fr.nil n0
  refine Goes.via (next := s₁.setTop (mkF m 0 #[.val (.ref a1), .val (.ref a2), .val (.int (0 : Int32)), .val (.int (1 : Int32)), .val .null, .unset] [])) (fun t k => castTop (ef_2_1 m a1 a2) k) ?_
  refine Goes.via (fun t k => XS.aloadN X0.here hx rfl (hb hby d2_1_0) rfl rfl k) ?_
  show Goes p e below (s₁.setTop (mkF m 1 #[.val (.ref a1), .val (.ref a2), .val (.int (0 : Int32)), .val (.int (1 : Int32)), .val .null, .unset] [(.ref a1)])) _
  obtain ⟨T1, X1, e1, st1⟩ := initO X0 hx hZ hown (hw _ (List.mem_of_getElem? (i := 11) rfl)) (hw _ (List.mem_of_getElem? (i := 12) rfl)) (hw _ (List.mem_of_getElem? (i := 13) rfl)) e0 (g := (mkF m 1 #[.val (.ref a1), .val (.ref a2), .val (.int (0 : Int32)), .val (.int (1 : Int32)), .val .null, .unset] [(.ref a1)])) rfl (by rw [hml]; rfl) rfl (hb hby d2_1_1) (by decide) (W := 0) (by show 2 * 0 + _ ≤ _; exact Nat.le_of_eq rfl) (by decide)
  refine Goes.via st1 ?_
  show Goes p e below (T1.setTop (mkF m 4 #[.val (.ref a1), .val (.ref a2), .val (.int (0 : Int32)), .val (.int (1 : Int32)), .val .null, .unset] [])) _
  refine Goes.via (fun t k => XS.iloadN X1.here hx rfl (hb hby d2_1_4) rfl k) ?_
  show Goes p e below (T1.setTop (mkF m 5 #[.val (.ref a1), .val (.ref a2), .val (.int (0 : Int32)), .val (.int (1 : Int32)), .val .null, .unset] [(.int (1 : Int32))])) _
  refine Goes.via (fun t k => XS.ifYes X1.here hx rfl (pc0 := 5) (pc' := 27) rfl (hb hby d2_1_5) rfl ((if0 _ _).trans (feq (show ¬ ((1 : Int32) = (0 : Int32)) from (by decide))).2) (by decide) (by decide) k) ?_
  show Goes p e below (T1.setTop (mkF m 27 #[.val (.ref a1), .val (.ref a2), .val (.int (0 : Int32)), .val (.int (1 : Int32)), .val .null, .unset] [])) _
  obtain ⟨T2, X2, e2, st2⟩ := getS2 X1 hx hZ hown (host := "") (Or.inl (hw _ (List.mem_of_getElem? (i := 14) rfl))) Via.refl e1 (St.1.ext O0.2) (g := (mkF m 27 #[.val (.ref a1), .val (.ref a2), .val (.int (0 : Int32)), .val (.int (1 : Int32)), .val .null, .unset] [])) rfl (hb hby d2_1_27)
  refine Goes.via st2 ?_
  show Goes p e below (T2.setTop (mkF m 30 #[.val (.ref a1), .val (.ref a2), .val (.int (0 : Int32)), .val (.int (1 : Int32)), .val .null, .unset] [(.int w0)])) _
  have hc30_3 : ¬ (w0 = (0 : Int32)) := St.2
  refine Goes.via (fun t k => XS.ifNo X2.here hx rfl (hb hby d2_1_30) rfl ((if0 _ _).trans (feq hc30_3).1) k) ?_
  show Goes p e below (T2.setTop (mkF m 33 #[.val (.ref a1), .val (.ref a2), .val (.int (0 : Int32)), .val (.int (1 : Int32)), .val .null, .unset] [])) _
  refine Goes.via (fun t k => XS.aloadN X2.here hx rfl (hb hby d2_1_33) rfl rfl k) ?_
  show Goes p e below (T2.setTop (mkF m 34 #[.val (.ref a1), .val (.ref a2), .val (.int (0 : Int32)), .val (.int (1 : Int32)), .val .null, .unset] [(.ref a2)])) _
  refine Goes.via (fun t k => XS.iloadN X2.here hx rfl (hb hby d2_1_34) rfl k) ?_
  show Goes p e below (T2.setTop (mkF m 35 #[.val (.ref a1), .val (.ref a2), .val (.int (0 : Int32)), .val (.int (1 : Int32)), .val .null, .unset] [(.int (0 : Int32)), (.ref a2)])) _
  refine Goes.via (fun t k => XS.iloadN X2.here hx rfl (hb hby d2_1_35) rfl k) ?_
  show Goes p e below (T2.setTop (mkF m 36 #[.val (.ref a1), .val (.ref a2), .val (.int (0 : Int32)), .val (.int (1 : Int32)), .val .null, .unset] [(.int (1 : Int32)), (.int (0 : Int32)), (.ref a2)])) _
  obtain ⟨_, _, ⟨T4, L4, k4, n4⟩, -, X4, ⟨Lc4, hQ4, l4, y4, z4⟩, st4⟩ := Jvm.LawKit.callS X2 hx (y := (⟨"java/lang/StringUTF16", "compress", "([CII)[B"⟩ : MethodName)) hown (mvT hZ (hw _ (List.mem_of_getElem? (i := 15) rfl))) (mvT hZ (hw _ (List.mem_of_getElem? (i := 16) rfl))) (mvT hZ (hw _ (List.mem_of_getElem? (i := 17) rfl))) (mvT hZ (hw _ (List.mem_of_getElem? (i := 18) rfl))) (by decide) (backOf (W := 0) (rm4_1 l Z a0 hw [] a2 k2 c0 h0 n0 Z0 V2 hc0) hZ (hw _ (List.mem_of_getElem? (i := 18) rfl)) (hw _ (List.mem_of_getElem? (i := 17) rfl)) (by decide) (by decide)) (g := (mkF m 36 #[.val (.ref a1), .val (.ref a2), .val (.int (0 : Int32)), .val (.int (1 : Int32)), .val .null, .unset] [(.int (1 : Int32)), (.int (0 : Int32)), (.ref a2)])) rfl (by rw [hml]; rfl) (argsL := [(.ref a2), (.int (0 : Int32)), (.int (1 : Int32))]) (rest := []) (lenOf pd_2_1_0 rfl) rfl (by show 2 * 0 + _ ≤ _; exact Nat.le_of_eq rfl) (hb hby d2_1_36) (fun _ _ => ⟨rfl, e2, (by decide : 0 + 1 ≤ _), (by decide : 0 + 1 ≤ _)⟩)
  dsimp only [Pt.U, Pt.locs, Pt.cells, Pt.slots] at X4 l4 y4 z4 st4 hQ4
  subst l4 y4 z4
  obtain ⟨t4, kt4, rfl, N4q, gt4, zt4, Kc4, Vc4⟩ := hQ4
  have lt_a1_t4 : a1 < t4 := Nat.lt_of_lt_of_le E1.lt zt4
  have lt_a2_t4 : a2 < t4 := Nat.lt_of_lt_of_le V2.lt zt4
  have sz_t4 : h0.size ≤ t4 := Nat.le_trans (Keep.refl h0 [a1]).1 zt4
  have F4_28 := E1.keep Kc4
  have F4_29 := Fv.keep Kc4 List.not_mem_nil
  have F4_30 := Fc.keep Kc4 List.not_mem_nil
  have F4_31 := V2.keep Kc4 List.not_mem_nil
  have K4 : Keep h0 T4.heap [a1] := (Keep.refl h0 [a1]).trans Kc4 (fun x hx => nomatch hx)
  have Z4 : n0 ≤ T4.heap.size := Nat.le_trans Z0 Kc4.1
  have O4 := O0.keep Kc4 (fun x hx => nomatch hx)
  have N4 := Fr.app N0 N4q
  refine Goes.via st4 ?_
  show Goes p e below (T4.setTop (mkF m 39 #[.val (.ref a1), .val (.ref a2), .val (.int (0 : Int32)), .val (.int (1 : Int32)), .val .null, .unset] [(.ref t4)])) _
  refine Goes.via (fun t k => XS.astore X4.here hx rfl (hb hby d2_1_39) rfl rfl (l' := #[.val (.ref a1), .val (.ref a2), .val (.int (0 : Int32)), .val (.int (1 : Int32)), .val .null, .val (.ref t4)]) rfl k) ?_
  show Goes p e below (T4.setTop (mkF m 41 #[.val (.ref a1), .val (.ref a2), .val (.int (0 : Int32)), .val (.int (1 : Int32)), .val .null, .val (.ref t4)] [])) _
  refine Goes.via (fun t k => XS.aloadN X4.here hx rfl (hb hby d2_1_41) rfl rfl k) ?_
  show Goes p e below (T4.setTop (mkF m 42 #[.val (.ref a1), .val (.ref a2), .val (.int (0 : Int32)), .val (.int (1 : Int32)), .val .null, .val (.ref t4)] [(.ref a1)])) _
  refine Goes.via (fun t k => XS.aload X4.here hx rfl (hb hby d2_1_42) rfl rfl k) ?_
  show Goes p e below (T4.setTop (mkF m 44 #[.val (.ref a1), .val (.ref a2), .val (.int (0 : Int32)), .val (.int (1 : Int32)), .val .null, .val (.ref t4)] [(.ref t4), (.ref a1)])) _
  refine Goes.via (fun t k => XS.iloadN X4.here hx rfl (hb hby d2_1_44) rfl k) ?_
  show Goes p e below (T4.setTop (mkF m 45 #[.val (.ref a1), .val (.ref a2), .val (.int (0 : Int32)), .val (.int (1 : Int32)), .val .null, .val (.ref t4)] [(.int (1 : Int32)), (.ref t4), (.ref a1)])) _
  obtain ⟨Lw5, X5w, N5w⟩ := ownPack X4 N4
  obtain ⟨_, _, ⟨T6, L6, k6, n6⟩, -, X6, ⟨Lc6, hQ6, l6, y6, z6⟩, st6⟩ := Jvm.LawKit.callS X5w hx (y := (⟨"java/lang/StringUTF16", "coderFromArrayLen", "([BI)B"⟩ : MethodName)) hown (mvT hZ (hw _ (List.mem_of_getElem? (i := 23) rfl))) (mvT hZ (hw _ (List.mem_of_getElem? (i := 24) rfl))) (mvT hZ (hw _ (List.mem_of_getElem? (i := 17) rfl))) (mvT hZ (hw _ (List.mem_of_getElem? (i := 25) rfl))) (by decide) (backOf (W := 1) (rm6_1 l Z a0 hw [] t4 kt4 _ T4.heap n0 Z4 Vc4) hZ (hw _ (List.mem_of_getElem? (i := 25) rfl)) (hw _ (List.mem_of_getElem? (i := 17) rfl)) (by decide) (by decide)) (g := (mkF m 45 #[.val (.ref a1), .val (.ref a2), .val (.int (0 : Int32)), .val (.int (1 : Int32)), .val .null, .val (.ref t4)] [(.int (1 : Int32)), (.ref t4), (.ref a1)])) rfl (by rw [hml]; rfl) (argsL := [(.ref t4), (.int (1 : Int32))]) (rest := [(.ref a1)]) (lenOf pd_2_1_1 rfl) rfl (by show 2 * 0 + _ ≤ _; exact Nat.le_of_eq rfl) (hb hby d2_1_45) (fun _ _ => ⟨rfl, rfl, (by decide : 1 + 0 ≤ _), (by decide : 1 + 0 ≤ _)⟩)
  dsimp only [Pt.U, Pt.locs, Pt.cells, Pt.slots] at X6 l6 y6 z6 st6 hQ6
  subst l6 y6 z6
  obtain ⟨rfl, N6q, er6⟩ := hQ6
  have e6 : T6.heap = T4.heap := er6
  have N6 := Fr.app N5w N6q
  refine Goes.via st6 ?_
  show Goes p e below (T6.setTop (mkF m 48 #[.val (.ref a1), .val (.ref a2), .val (.int (0 : Int32)), .val (.int (1 : Int32)), .val .null, .val (.ref t4)] [(.int (0 : Int32)), (.ref a1)])) _
  obtain ⟨T7, h7, X7, e7, W7, st7⟩ := putFN X6 hx hZ hown (hw _ (List.mem_of_getElem? (i := 26) rfl)) Via.refl e6 F4_30 F4_28 (Or.inr ⟨(hw _ (List.mem_of_getElem? (i := 27) rfl)), rfl, hnm⟩) (hw _ (List.mem_of_getElem? (i := 2) rfl)) (ty := .byte) (v' := (.int (0 : Int32))) (by decide) rfl (by decide) (g := (mkF m 48 #[.val (.ref a1), .val (.ref a2), .val (.int (0 : Int32)), .val (.int (1 : Int32)), .val .null, .val (.ref t4)] [(.int (0 : Int32)), (.ref a1)])) rfl rfl (hb hby d2_1_48)
  have Fw7 := F4_30.same W7
  have F7_57 := F4_28.wr W7
  have F7_58 := F4_29.other W7 (Or.inr (slot_ne (Or.inr (hw _ (List.mem_of_getElem? (i := 29) rfl))) (Or.inr (hw _ (List.mem_of_getElem? (i := 27) rfl))) (by decide) (t := (.array .byte)) (t' := .byte) (by decide) (by decide)))
  have F7_59 := F4_31.other W7 (Ne.symm ne12)
  have F7_60 := Vc4.other W7 (Nat.ne_of_gt lt_a1_t4)
  have K7 : Keep h0 h7 [a1] := K4.wr W7 (Or.inl (List.mem_of_getElem? (i := 0) rfl))
  have Z7 : n0 ≤ h7.size := Nat.le_trans Z4 (Keep.of_wr W7).1
  have N7 := Fr.snoc X7 N6 g1
  have O7 := O4.wr W7 g1
  refine Goes.via st7 ?_
  show Goes p e below (T7.setTop (mkF m 51 #[.val (.ref a1), .val (.ref a2), .val (.int (0 : Int32)), .val (.int (1 : Int32)), .val .null, .val (.ref t4)] [])) _
  refine Goes.via (fun t k => XS.aloadN X7.here hx rfl (hb hby d2_1_51) rfl rfl k) ?_
  show Goes p e below (T7.setTop (mkF m 52 #[.val (.ref a1), .val (.ref a2), .val (.int (0 : Int32)), .val (.int (1 : Int32)), .val .null, .val (.ref t4)] [(.ref a1)])) _
  refine Goes.via (fun t k => XS.aload X7.here hx rfl (hb hby d2_1_52) rfl rfl k) ?_
  show Goes p e below (T7.setTop (mkF m 54 #[.val (.ref a1), .val (.ref a2), .val (.int (0 : Int32)), .val (.int (1 : Int32)), .val .null, .val (.ref t4)] [(.ref t4), (.ref a1)])) _
  obtain ⟨T8, h8, X8, e8, W8, st8⟩ := putF X7 hx hZ hown (host := "") (Or.inl (hw _ (List.mem_of_getElem? (i := 28) rfl))) Via.refl e7 F7_58 F7_57 (Or.inr ⟨(hw _ (List.mem_of_getElem? (i := 29) rfl)), rfl, hnm⟩) (hw _ (List.mem_of_getElem? (i := 2) rfl)) (ty := (.array .byte)) (by decide) rfl rfl (g := (mkF m 54 #[.val (.ref a1), .val (.ref a2), .val (.int (0 : Int32)), .val (.int (1 : Int32)), .val .null, .val (.ref t4)] [(.ref t4), (.ref a1)])) rfl rfl (hb hby d2_1_54)
  have Fw8 := F7_58.same W8
  have F8_73 := F7_57.wr W8
  have F8_74 := F7_59.other W8 (Ne.symm ne12)
  have F8_75 := F7_60.other W8 (Nat.ne_of_gt lt_a1_t4)
  have F8_76 := Fw7.other W8 (Or.inr (slot_ne (Or.inr (hw _ (List.mem_of_getElem? (i := 27) rfl))) (Or.inr (hw _ (List.mem_of_getElem? (i := 29) rfl))) (by decide) (t := .byte) (t' := (.array .byte)) (by decide) (by decide)))
  have K8 : Keep h0 h8 [a1] := K7.wr W8 (Or.inl (List.mem_of_getElem? (i := 0) rfl))
  have Z8 : n0 ≤ h8.size := Nat.le_trans Z7 (Keep.of_wr W8).1
  have N8 := Fr.snoc X8 N7 g1
  have O8 := O7.wr W8 g1
  refine Goes.via st8 ?_
  show Goes p e below (T8.setTop (mkF m 57 #[.val (.ref a1), .val (.ref a2), .val (.int (0 : Int32)), .val (.int (1 : Int32)), .val .null, .val (.ref t4)] [])) _
  obtain ⟨fs, hr, hrun, hended, hW, hsame⟩ := X8.leave (v := none) (fun _ => rfl)
  refine ⟨_, _, ?_, hrun, hended, _, _, rfl, ?_, ⟨_, rfl⟩, hW, hsame.mono (by decide) (by decide)⟩
  · exact X8.returnOut hx Bd.returns (hb hby d2_1_57) hr
  · show Q2_1 Z a1 c0 h0 n0 _ T8.heap _
    rw [e8]
    exact ⟨rfl, N8, K8, F8_73, F8_76, t4, _, gt4, sz_t4, Fw8, F8_75⟩
theorem d1_1_0 : decode jdk_42_method_3_code 0 = .ok (.aload_n 0, 1) := by decide +kernel
theorem d1_1_1 : decode jdk_42_method_3_code 1 = .ok (.aload_n 1, 1) := by decide +kernel
theorem d1_1_2 : decode jdk_42_method_3_code 2 = .ok (.iconst 0, 1) := by decide +kernel
theorem d1_1_3 : decode jdk_42_method_3_code 3 = .ok (.aload_n 1, 1) := by decide +kernel
theorem d1_1_4 : decode jdk_42_method_3_code 4 = .ok (.arraylength, 1) := by decide +kernel
theorem d1_1_5 : decode jdk_42_method_3_code 5 = .ok (.aconst_null, 1) := by decide +kernel
theorem d1_1_6 : decode jdk_42_method_3_code 6 = .ok (.invokespecial 27, 3) := by decide +kernel
theorem d1_1_9 : decode jdk_42_method_3_code 9 = .ok (.return_, 1) := by decide +kernel
theorem pn_1_1 : plainName "java/lang/String" = true := by first | (simp [plainName, overriddenIn]; done) | decide +kernel
theorem pd_1_1_0 : parseMethodDescriptor "([CIILjava/lang/Void;)V" = some ⟨[(.array .char), .int, .int, (.object "java/lang/Void")], none⟩ := by decide +kernel
theorem ef_1_1 (m : MethodId) (x0 : Addr) (x1 : Addr) : entryFrame m #[(.ref x0), (.ref x1)] 2 = mkF m 0 #[.val (.ref x0), .val (.ref x1)] [] := by first | (simp [entryFrame, mkF, argsToLocals, Value.category]; done) | rfl
def Q1_1 (Z : State) (a1 : Addr) (c0 : Int32) (h0 : Heap) (n0 : Nat) (v : Option Value) (h : Heap) (L : List Loc) : Prop := v = none ∧ Fr n0 L ∧ Keep h0 h [a1] ∧ Exa Z h a1 "java/lang/String" ∧ Fld Z h a1 "java/lang/String" "coder" "B" (.int (0 : Int32)) ∧ ∃ (t : Addr) (k : ClassId), n0 ≤ t ∧ h0.size ≤ t ∧ Fld Z h a1 "java/lang/String" "value" "[B" (.ref t) ∧ Arv Z h t k .byte (1 : Int32) [(.int (nar .byte (c0.toInt8.toInt32)))] (.int (0 : Int32))
set_option maxRecDepth 65536 in
set_option maxHeartbeats 40000000 in
theorem rm1_1 (l : Launch) (Z : State) (a0 : Array Value) (hw : ∀ d ∈ tables_1, d.before a0 Z = true) (ws : List Jvm.Cond) (a1 : Addr) (a2 : Addr) (k2 : ClassId) (c0 : Int32) (w0 : Int32) (h0 : Heap) (n0 : Nat) (Z0 : n0 ≤ h0.size) (E1 : Exa Z h0 a1 "java/lang/String") (Fv : Fld Z h0 a1 "java/lang/String" "value" "[B" .null) (Fc : Fld Z h0 a1 "java/lang/String" "coder" "B" (.int (0 : Int32))) (V2 : Arv Z h0 a2 k2 .char (1 : Int32) [(.int c0)] (.int (0 : Int32))) (g1 : n0 ≤ a1) (ne12 : a1 ≠ a2) (O0 : Old Z n0 h0) (St : own_St Z w0) (hc0 : ¬ ((255 : Int32) < c0)) :
    MetFree l (⟨"java/lang/String", "<init>", "([C)V"⟩ : MethodName) (head1 (Jvm.Cond.code (⟨"java/lang/String", "<init>", "([C)V"⟩ : MethodName) jdk_42_method_3_code 2 none :: ws) ({ frames := 3, cells := 1, slots := 1, locals := 52 } : Room)) (fun a U => a = #[(.ref a1), (.ref a2)] ∧ Z.Warmed39 U.vm ∧ U.heap = h0) (fun _ _ _ _ _ => True) (fun _ U o U' => ∃ v L, o = .returned v ∧ Q1_1 Z a1 c0 h0 n0 v U'.heap L ∧ FrameEnd U o U' L ({ frames := 3, cells := 1, slots := 1, locals := 52 } : Room).cells ({ frames := 3, cells := 1, slots := 1, locals := 52 } : Room).slots) := by
  refine MetFree.of_bodySF (plainFor_of_name pn_1_1) hisR ?_
  intro p e s m args below meth c s₁ Bd hml0 hP hK
  obtain ⟨rfl, hZ, hh⟩ := hP
  have hx := Bd.exec
  have hby := Bd.bytes
  have hml : c.maxLocals = 2 := hml0
  have hown : s.vm.findClass "java/lang/String" = some m.cls := findClass_of_methodNamed Bd.named
  have hnm := (name_of_methodNamed Bd.named Bd.method).1
  have X0 : Stand p l e ({ frames := 3, cells := 1, slots := 1, locals := 52 } : Room) s m #[(.ref a1), (.ref a2)] below meth c s₁ [] 0 0 := Stand.of_body Bd
  have e0 : s₁.heap = h0 := by rw [← hh, Bd.state]; rfl
  have N0 := Fr.nil n0
  refine Goes.via (next := s₁.setTop (mkF m 0 #[.val (.ref a1), .val (.ref a2)] [])) (fun t k => castTop (ef_1_1 m a1 a2) k) ?_
  refine Goes.via (fun t k => XS.aloadN X0.here hx rfl (hb hby d1_1_0) rfl rfl k) ?_
  show Goes p e below (s₁.setTop (mkF m 1 #[.val (.ref a1), .val (.ref a2)] [(.ref a1)])) _
  refine Goes.via (fun t k => XS.aloadN X0.here hx rfl (hb hby d1_1_1) rfl rfl k) ?_
  show Goes p e below (s₁.setTop (mkF m 2 #[.val (.ref a1), .val (.ref a2)] [(.ref a2), (.ref a1)])) _
  refine Goes.via (fun t k => XS.iconst X0.here hx rfl (hb hby d1_1_2) k) ?_
  show Goes p e below (s₁.setTop (mkF m 3 #[.val (.ref a1), .val (.ref a2)] [(.int (0 : Int32)), (.ref a2), (.ref a1)])) _
  refine Goes.via (fun t k => XS.aloadN X0.here hx rfl (hb hby d1_1_3) rfl rfl k) ?_
  show Goes p e below (s₁.setTop (mkF m 4 #[.val (.ref a1), .val (.ref a2)] [(.ref a2), (.int (0 : Int32)), (.ref a2), (.ref a1)])) _
  obtain ⟨cl1, Ar1, -, Sa1, Na1, -, -⟩ := id V2
  refine Goes.via (next := s₁.setTop (mkF m 5 #[.val (.ref a1), .val (.ref a2)] [(.int (1 : Int32)), (.int (0 : Int32)), (.ref a2), (.ref a1)])) (fun t k => X0.arraylength hx (by rw [e0]; exact Ar1.1) (State.isArrayOf_alike hZ.alike Ar1.2.1) (g := (mkF m 4 #[.val (.ref a1), .val (.ref a2)] [(.ref a2), (.int (0 : Int32)), (.ref a2), (.ref a1)])) rfl rfl (hb hby d1_1_4) _ (by rw [len_of Sa1 Na1]; exact k)) ?_
  show Goes p e below (s₁.setTop (mkF m 5 #[.val (.ref a1), .val (.ref a2)] [(.int (1 : Int32)), (.int (0 : Int32)), (.ref a2), (.ref a1)])) _
  refine Goes.via (fun t k => XS.aconstNull X0.here hx rfl (hb hby d1_1_5) k) ?_
  show Goes p e below (s₁.setTop (mkF m 6 #[.val (.ref a1), .val (.ref a2)] [.null, (.int (1 : Int32)), (.int (0 : Int32)), (.ref a2), (.ref a1)])) _
  obtain ⟨_, _, ⟨T2, L2, k2, n2⟩, -, X2, ⟨Lc2, hQ2, l2, y2, z2⟩, st2⟩ := X0.specialBack hx (y := (⟨"java/lang/String", "<init>", "([CIILjava/lang/Void;)V"⟩ : MethodName)) rfl hown (mvT hZ (hw _ (List.mem_of_getElem? (i := 7) rfl))) (mvT hZ (hw _ (List.mem_of_getElem? (i := 8) rfl))) (mvT hZ (hw _ (List.mem_of_getElem? (i := 10) rfl))) (by decide) (backOf (W := 0) (rm2_1 l Z a0 hw [] a1 a2 k2 c0 w0 h0 n0 Z0 E1 Fv Fc V2 g1 ne12 O0 St hc0) hZ (hw _ (List.mem_of_getElem? (i := 10) rfl)) (hw _ (List.mem_of_getElem? (i := 3) rfl)) (by decide) (by decide)) (g := (mkF m 6 #[.val (.ref a1), .val (.ref a2)] [.null, (.int (1 : Int32)), (.int (0 : Int32)), (.ref a2), (.ref a1)])) rfl (by rw [hml]; rfl) (Steps.refl _) (a := a1) (argsL := [(.ref a2), (.int (0 : Int32)), (.int (1 : Int32)), .null]) (rest := []) (lenOf pd_1_1_0 rfl) rfl (by show 2 * 0 + _ ≤ _; exact Nat.le_of_eq rfl) (hb hby d1_1_6) (fun _ _ => ⟨rfl, e0, (by decide : 0 + 1 ≤ _), (by decide : 0 + 1 ≤ _)⟩)
  dsimp only [Pt.U, Pt.locs, Pt.cells, Pt.slots] at X2 l2 y2 z2 st2 hQ2
  subst l2 y2 z2
  obtain ⟨rfl, N2q, Kc2, Ec2, Cc2, t2, kt2, gt2, zt2, Vq2, Vc2⟩ := hQ2
  have lt_a1_t2 : a1 < t2 := Nat.lt_of_lt_of_le E1.lt zt2
  have lt_a2_t2 : a2 < t2 := Nat.lt_of_lt_of_le V2.lt zt2
  have sz_t2 : h0.size ≤ t2 := Nat.le_trans (Keep.refl h0 [a1]).1 zt2
  have F2_20 := E1.keep Kc2
  have F2_21 := V2.keep Kc2 (fun q => (Ne.symm ne12) (List.mem_singleton.mp q))
  have K2 : Keep h0 T2.heap [a1] := (Keep.refl h0 [a1]).trans Kc2 (fun x hx => by cases List.mem_singleton.mp hx; exact Or.inl (List.mem_of_getElem? (i := 0) rfl))
  have Z2 : n0 ≤ T2.heap.size := Nat.le_trans Z0 Kc2.1
  have O2 := O0.keep Kc2 (fun x hx => by cases List.mem_singleton.mp hx; exact g1)
  have N2 := Fr.app N0 N2q
  refine Goes.via (fun t k => st2.trans k) ?_
  show Goes p e below (T2.setTop (mkF m 9 #[.val (.ref a1), .val (.ref a2)] [])) _
  obtain ⟨fs, hr, hrun, hended, hW, hsame⟩ := X2.leave (v := none) (fun _ => rfl)
  refine ⟨_, _, ?_, hrun, hended, _, _, rfl, ?_, ⟨_, rfl⟩, hW, hsame.mono (by decide) (by decide)⟩
  · exact X2.returnOut hx Bd.returns (hb hby d1_1_9) hr
  · show Q1_1 Z a1 c0 h0 n0 _ T2.heap _
    exact ⟨rfl, N2, K2, F2_20, Cc2, t2, _, gt2, sz_t2, Vq2, Vc2⟩
theorem d5_2_0 : decode jdk_52_method_21_code 0 = .ok (.iconst 0, 1) := by decide +kernel
theorem d5_2_1 : decode jdk_52_method_21_code 1 = .ok (.istore 5, 2) := by decide +kernel
theorem d5_2_3 : decode jdk_52_method_21_code 3 = .ok (.iload 5, 2) := by decide +kernel
theorem d5_2_5 : decode jdk_52_method_21_code 5 = .ok (.iload 4, 2) := by decide +kernel
theorem d5_2_7 : decode jdk_52_method_21_code 7 = .ok (.if_icmp .ge 37, 3) := by decide +kernel
theorem d5_2_10 : decode jdk_52_method_21_code 10 = .ok (.aload_n 0, 1) := by decide +kernel
theorem d5_2_11 : decode jdk_52_method_21_code 11 = .ok (.iload_n 1, 1) := by decide +kernel
theorem d5_2_12 : decode jdk_52_method_21_code 12 = .ok (.caload, 1) := by decide +kernel
theorem d5_2_13 : decode jdk_52_method_21_code 13 = .ok (.istore 6, 2) := by decide +kernel
theorem d5_2_15 : decode jdk_52_method_21_code 15 = .ok (.iload 6, 2) := by decide +kernel
theorem d5_2_17 : decode jdk_52_method_21_code 17 = .ok (.sipush 255, 3) := by decide +kernel
theorem d5_2_20 : decode jdk_52_method_21_code 20 = .ok (.if_icmp .le 6, 3) := by decide +kernel
theorem d5_2_26 : decode jdk_52_method_21_code 26 = .ok (.aload_n 2, 1) := by decide +kernel
theorem d5_2_27 : decode jdk_52_method_21_code 27 = .ok (.iload_n 3, 1) := by decide +kernel
theorem d5_2_28 : decode jdk_52_method_21_code 28 = .ok (.iload 6, 2) := by decide +kernel
theorem d5_2_30 : decode jdk_52_method_21_code 30 = .ok (.i2b, 1) := by decide +kernel
theorem d5_2_31 : decode jdk_52_method_21_code 31 = .ok (.bastore, 1) := by decide +kernel
theorem d5_2_32 : decode jdk_52_method_21_code 32 = .ok (.iinc 1 1, 3) := by decide +kernel
theorem d5_2_35 : decode jdk_52_method_21_code 35 = .ok (.iinc 3 1, 3) := by decide +kernel
theorem d5_2_38 : decode jdk_52_method_21_code 38 = .ok (.iinc 5 1, 3) := by decide +kernel
theorem d5_2_41 : decode jdk_52_method_21_code 41 = .ok (.goto (-38), 3) := by decide +kernel
theorem d5_2_44 : decode jdk_52_method_21_code 44 = .ok (.iload 4, 2) := by decide +kernel
theorem d5_2_46 : decode jdk_52_method_21_code 46 = .ok (.ireturn, 1) := by decide +kernel
theorem pn_5_2 : plainName "java/lang/StringUTF16" = true := by first | (simp [plainName, overriddenIn]; done) | decide +kernel
theorem ef_5_2 (m : MethodId) (x0 : Addr) (x2 : Addr) : entryFrame m #[(.ref x0), (.int (0 : Int32)), (.ref x2), (.int (0 : Int32)), (.int (2 : Int32))] 7 = mkF m 0 #[.val (.ref x0), .val (.int (0 : Int32)), .val (.ref x2), .val (.int (0 : Int32)), .val (.int (2 : Int32)), .unset, .unset] [] := by first | (simp [entryFrame, mkF, argsToLocals, Value.category]; done) | rfl
def Q5_2 (Z : State) (a2 : Addr) (k2 : ClassId) (c0 c1 : Int32) (h0 : Heap) (n0 : Nat) (v : Option Value) (h : Heap) (L : List Loc) : Prop := v = some (.int (2 : Int32)) ∧ Fr n0 L ∧ Keep h0 h [a2] ∧ Arv Z h a2 k2 .byte (2 : Int32) [(.int (nar .byte (c0.toInt8.toInt32))), (.int (nar .byte (c1.toInt8.toInt32)))] (.int (0 : Int32))
set_option maxRecDepth 65536 in
set_option maxHeartbeats 40000000 in
theorem rm5_2 (l : Launch) (Z : State) (a0 : Array Value) (hw : ∀ d ∈ tables_1, d.before a0 Z = true) (ws : List Jvm.Cond) (a1 : Addr) (a2 : Addr) (k1 k2 : ClassId) (c0 c1 : Int32) (h0 : Heap) (n0 : Nat) (Z0 : n0 ≤ h0.size) (V1 : Arv Z h0 a1 k1 .char (2 : Int32) [(.int c0), (.int c1)] (.int (0 : Int32))) (V2 : Arv Z h0 a2 k2 .byte (2 : Int32) [(.int (0 : Int32)), (.int (0 : Int32))] (.int (0 : Int32))) (g2 : n0 ≤ a2) (lt12 : a1 < a2) (hc0 : ¬ ((255 : Int32) < c0)) (hc1 : ¬ ((255 : Int32) < c1)) :
    MetFree l (⟨"java/lang/StringUTF16", "compress", "([CI[BII)I"⟩ : MethodName) (head1 (Jvm.Cond.code (⟨"java/lang/StringUTF16", "compress", "([CI[BII)I"⟩ : MethodName) jdk_52_method_21_code 7 (some .int) :: ws) ({ frames := 0, cells := 0, slots := 0, locals := 0 } : Room)) (fun a U => a = #[(.ref a1), (.int (0 : Int32)), (.ref a2), (.int (0 : Int32)), (.int (2 : Int32))] ∧ Z.Warmed39 U.vm ∧ U.heap = h0) (fun _ _ _ _ _ => True) (fun _ U o U' => ∃ v L, o = .returned v ∧ Q5_2 Z a2 k2 c0 c1 h0 n0 v U'.heap L ∧ FrameEnd U o U' L ({ frames := 0, cells := 0, slots := 0, locals := 0 } : Room).cells ({ frames := 0, cells := 0, slots := 0, locals := 0 } : Room).slots) := by
  refine MetFree.of_bodySF (plainFor_of_name pn_5_2) hisR ?_
  intro p e s m args below meth c s₁ Bd hml0 hP hK
  obtain ⟨rfl, hZ, hh⟩ := hP
  have hx := Bd.exec
  have hby := Bd.bytes
  have hml : c.maxLocals = 7 := hml0
  have hown : s.vm.findClass "java/lang/StringUTF16" = some m.cls := findClass_of_methodNamed Bd.named
  have hnm := (name_of_methodNamed Bd.named Bd.method).1
  have X0 : Stand p l e ({ frames := 0, cells := 0, slots := 0, locals := 0 } : Room) s m #[(.ref a1), (.int (0 : Int32)), (.ref a2), (.int (0 : Int32)), (.int (2 : Int32))] below meth c s₁ [] 0 0 := Stand.of_body Bd
  have e0 : s₁.heap = h0 := by rw [← hh, Bd.state]; rfl
  have N0 := Fr.nil n0
  refine Goes.via (next := s₁.setTop (mkF m 0 #[.val (.ref a1), .val (.int (0 : Int32)), .val (.ref a2), .val (.int (0 : Int32)), .val (.int (2 : Int32)), .unset, .unset] [])) (fun t k => castTop (ef_5_2 m a1 a2) k) ?_
  refine Goes.via (fun t k => XS.iconst X0.here hx rfl (hb hby d5_2_0) k) ?_
  show Goes p e below (s₁.setTop (mkF m 1 #[.val (.ref a1), .val (.int (0 : Int32)), .val (.ref a2), .val (.int (0 : Int32)), .val (.int (2 : Int32)), .unset, .unset] [(.int (0 : Int32))])) _
  refine Goes.via (fun t k => XS.istore X0.here hx rfl (hb hby d5_2_1) rfl (l' := #[.val (.ref a1), .val (.int (0 : Int32)), .val (.ref a2), .val (.int (0 : Int32)), .val (.int (2 : Int32)), .val (.int (0 : Int32)), .unset]) rfl k) ?_
  show Goes p e below (s₁.setTop (mkF m 3 #[.val (.ref a1), .val (.int (0 : Int32)), .val (.ref a2), .val (.int (0 : Int32)), .val (.int (2 : Int32)), .val (.int (0 : Int32)), .unset] [])) _
  refine Goes.via (fun t k => XS.iload X0.here hx rfl (hb hby d5_2_3) rfl k) ?_
  show Goes p e below (s₁.setTop (mkF m 5 #[.val (.ref a1), .val (.int (0 : Int32)), .val (.ref a2), .val (.int (0 : Int32)), .val (.int (2 : Int32)), .val (.int (0 : Int32)), .unset] [(.int (0 : Int32))])) _
  refine Goes.via (fun t k => XS.iload X0.here hx rfl (hb hby d5_2_5) rfl k) ?_
  show Goes p e below (s₁.setTop (mkF m 7 #[.val (.ref a1), .val (.int (0 : Int32)), .val (.ref a2), .val (.int (0 : Int32)), .val (.int (2 : Int32)), .val (.int (0 : Int32)), .unset] [(.int (2 : Int32)), (.int (0 : Int32))])) _
  refine Goes.via (fun t k => XS.icmpNo X0.here hx rfl (hb hby d5_2_7) rfl (tlt (show (0 : Int32) < (2 : Int32) from (by decide))).2.1 k) ?_
  show Goes p e below (s₁.setTop (mkF m 10 #[.val (.ref a1), .val (.int (0 : Int32)), .val (.ref a2), .val (.int (0 : Int32)), .val (.int (2 : Int32)), .val (.int (0 : Int32)), .unset] [])) _
  refine Goes.via (fun t k => XS.aloadN X0.here hx rfl (hb hby d5_2_10) rfl rfl k) ?_
  show Goes p e below (s₁.setTop (mkF m 11 #[.val (.ref a1), .val (.int (0 : Int32)), .val (.ref a2), .val (.int (0 : Int32)), .val (.int (2 : Int32)), .val (.int (0 : Int32)), .unset] [(.ref a1)])) _
  refine Goes.via (fun t k => XS.iloadN X0.here hx rfl (hb hby d5_2_11) rfl k) ?_
  show Goes p e below (s₁.setTop (mkF m 12 #[.val (.ref a1), .val (.int (0 : Int32)), .val (.ref a2), .val (.int (0 : Int32)), .val (.int (2 : Int32)), .val (.int (0 : Int32)), .unset] [(.int (0 : Int32)), (.ref a1)])) _
  obtain ⟨cl1, Ar1, qa1, Sa1, Na1, Ha1, Ga1⟩ := id V1
  have hin1 : ¬ ((0 : Int32) < 0 ∨ cl1.slots.size ≤ ((0 : Int32)).toNatClampNeg) := inb_of Sa1 ⟨by decide, by decide⟩
  have hat1 : cl1.slots[((0 : Int32)).toNatClampNeg]? = some (.int c0) := Ha1.at hin1 rfl
  refine Goes.via (fun t k => X0.caload hx (j := (0 : Int32)) (v := (.int c0)) (by rw [e0]; exact Ar1.1) (State.isArrayOf_alike hZ.alike Ar1.2.1) Ar1.2.2 hin1 hat1 (g := (mkF m 12 #[.val (.ref a1), .val (.int (0 : Int32)), .val (.ref a2), .val (.int (0 : Int32)), .val (.int (2 : Int32)), .val (.int (0 : Int32)), .unset] [(.int (0 : Int32)), (.ref a1)])) rfl rfl (hb hby d5_2_12) _ k) ?_
  show Goes p e below (s₁.setTop (mkF m 13 #[.val (.ref a1), .val (.int (0 : Int32)), .val (.ref a2), .val (.int (0 : Int32)), .val (.int (2 : Int32)), .val (.int (0 : Int32)), .unset] [(.int c0)])) _
  refine Goes.via (fun t k => XS.istore X0.here hx rfl (hb hby d5_2_13) rfl (l' := #[.val (.ref a1), .val (.int (0 : Int32)), .val (.ref a2), .val (.int (0 : Int32)), .val (.int (2 : Int32)), .val (.int (0 : Int32)), .val (.int c0)]) rfl k) ?_
  show Goes p e below (s₁.setTop (mkF m 15 #[.val (.ref a1), .val (.int (0 : Int32)), .val (.ref a2), .val (.int (0 : Int32)), .val (.int (2 : Int32)), .val (.int (0 : Int32)), .val (.int c0)] [])) _
  refine Goes.via (fun t k => XS.iload X0.here hx rfl (hb hby d5_2_15) rfl k) ?_
  show Goes p e below (s₁.setTop (mkF m 17 #[.val (.ref a1), .val (.int (0 : Int32)), .val (.ref a2), .val (.int (0 : Int32)), .val (.int (2 : Int32)), .val (.int (0 : Int32)), .val (.int c0)] [(.int c0)])) _
  refine Goes.via (fun t k => XS.sipush X0.here hx rfl (hb hby d5_2_17) k) ?_
  show Goes p e below (s₁.setTop (mkF m 20 #[.val (.ref a1), .val (.int (0 : Int32)), .val (.ref a2), .val (.int (0 : Int32)), .val (.int (2 : Int32)), .val (.int (0 : Int32)), .val (.int c0)] [(.int (255 : Int32)), (.int c0)])) _
  refine Goes.via (fun t k => XS.icmpYes X0.here hx rfl (pc0 := 20) (pc' := 26) rfl (hb hby d5_2_20) rfl (flt hc0).2.2.2 (by decide) (by decide) k) ?_
  show Goes p e below (s₁.setTop (mkF m 26 #[.val (.ref a1), .val (.int (0 : Int32)), .val (.ref a2), .val (.int (0 : Int32)), .val (.int (2 : Int32)), .val (.int (0 : Int32)), .val (.int c0)] [])) _
  refine Goes.via (fun t k => XS.aloadN X0.here hx rfl (hb hby d5_2_26) rfl rfl k) ?_
  show Goes p e below (s₁.setTop (mkF m 27 #[.val (.ref a1), .val (.int (0 : Int32)), .val (.ref a2), .val (.int (0 : Int32)), .val (.int (2 : Int32)), .val (.int (0 : Int32)), .val (.int c0)] [(.ref a2)])) _
  refine Goes.via (fun t k => XS.iloadN X0.here hx rfl (hb hby d5_2_27) rfl k) ?_
  show Goes p e below (s₁.setTop (mkF m 28 #[.val (.ref a1), .val (.int (0 : Int32)), .val (.ref a2), .val (.int (0 : Int32)), .val (.int (2 : Int32)), .val (.int (0 : Int32)), .val (.int c0)] [(.int (0 : Int32)), (.ref a2)])) _
  refine Goes.via (fun t k => XS.iload X0.here hx rfl (hb hby d5_2_28) rfl k) ?_
  show Goes p e below (s₁.setTop (mkF m 30 #[.val (.ref a1), .val (.int (0 : Int32)), .val (.ref a2), .val (.int (0 : Int32)), .val (.int (2 : Int32)), .val (.int (0 : Int32)), .val (.int c0)] [(.int c0), (.int (0 : Int32)), (.ref a2)])) _
  refine Goes.via (fun t k => XS.i2b X0.here hx rfl (hb hby d5_2_30) rfl k) ?_
  show Goes p e below (s₁.setTop (mkF m 31 #[.val (.ref a1), .val (.int (0 : Int32)), .val (.ref a2), .val (.int (0 : Int32)), .val (.int (2 : Int32)), .val (.int (0 : Int32)), .val (.int c0)] [(.int (c0.toInt8.toInt32)), (.int (0 : Int32)), (.ref a2)])) _
  obtain ⟨cl2, Ar2, qa2, Sa2, Na2, Ha2, Ga2⟩ := V2
  have hin2 : ¬ ((0 : Int32) < 0 ∨ cl2.slots.size ≤ ((0 : Int32)).toNatClampNeg) := inb_of Sa2 ⟨by decide, by decide⟩
  obtain ⟨T2, h2, X2, e2, W2, st2⟩ := stB X0 hx hZ e0 Ar2 (j := (0 : Int32)) hin2 (g := (mkF m 31 #[.val (.ref a1), .val (.int (0 : Int32)), .val (.ref a2), .val (.int (0 : Int32)), .val (.int (2 : Int32)), .val (.int (0 : Int32)), .val (.int c0)] [(.int (c0.toInt8.toInt32)), (.int (0 : Int32)), (.ref a2)])) rfl rfl (hb hby d5_2_31)
  have V2 : Arv Z h2 a2 k2 .byte (2 : Int32) [(.int (nar .byte (c0.toInt8.toInt32))), (.int (0 : Int32))] (.int (0 : Int32)) := Arv.set Ar2 qa2 Sa2 Na2 Ha2 Ga2 (fits_nar_byte _) W2 0 rfl (Nat.le_of_ble_eq_true rfl)
  have F2_39 := V1.other W2 (Nat.ne_of_lt lt12)
  have K2 : Keep h0 h2 [a2] := (Keep.refl h0 [a2]).wr W2 (Or.inl (List.mem_of_getElem? (i := 0) rfl))
  have Z2 : n0 ≤ h2.size := Nat.le_trans Z0 (Keep.of_wr W2).1
  have N2 := Fr.snoc X2 N0 g2
  refine Goes.via st2 ?_
  show Goes p e below (T2.setTop (mkF m 32 #[.val (.ref a1), .val (.int (0 : Int32)), .val (.ref a2), .val (.int (0 : Int32)), .val (.int (2 : Int32)), .val (.int (0 : Int32)), .val (.int c0)] [])) _
  refine Goes.via (fun t k => XS.iinc X2.here hx rfl (hb hby d5_2_32) rfl (l' := #[.val (.ref a1), .val (.int (1 : Int32)), .val (.ref a2), .val (.int (0 : Int32)), .val (.int (2 : Int32)), .val (.int (0 : Int32)), .val (.int c0)]) rfl k) ?_
  show Goes p e below (T2.setTop (mkF m 35 #[.val (.ref a1), .val (.int (1 : Int32)), .val (.ref a2), .val (.int (0 : Int32)), .val (.int (2 : Int32)), .val (.int (0 : Int32)), .val (.int c0)] [])) _
  refine Goes.via (fun t k => XS.iinc X2.here hx rfl (hb hby d5_2_35) rfl (l' := #[.val (.ref a1), .val (.int (1 : Int32)), .val (.ref a2), .val (.int (1 : Int32)), .val (.int (2 : Int32)), .val (.int (0 : Int32)), .val (.int c0)]) rfl k) ?_
  show Goes p e below (T2.setTop (mkF m 38 #[.val (.ref a1), .val (.int (1 : Int32)), .val (.ref a2), .val (.int (1 : Int32)), .val (.int (2 : Int32)), .val (.int (0 : Int32)), .val (.int c0)] [])) _
  refine Goes.via (fun t k => XS.iinc X2.here hx rfl (hb hby d5_2_38) rfl (l' := #[.val (.ref a1), .val (.int (1 : Int32)), .val (.ref a2), .val (.int (1 : Int32)), .val (.int (2 : Int32)), .val (.int (1 : Int32)), .val (.int c0)]) rfl k) ?_
  show Goes p e below (T2.setTop (mkF m 41 #[.val (.ref a1), .val (.int (1 : Int32)), .val (.ref a2), .val (.int (1 : Int32)), .val (.int (2 : Int32)), .val (.int (1 : Int32)), .val (.int c0)] [])) _
  refine Goes.via (fun t k => XS.goto X2.here hx rfl (pc0 := 41) (pc' := 3) rfl (hb hby d5_2_41) (by decide) (by decide) k) ?_
  show Goes p e below (T2.setTop (mkF m 3 #[.val (.ref a1), .val (.int (1 : Int32)), .val (.ref a2), .val (.int (1 : Int32)), .val (.int (2 : Int32)), .val (.int (1 : Int32)), .val (.int c0)] [])) _
  refine Goes.via (fun t k => XS.iload X2.here hx rfl (hb hby d5_2_3) rfl k) ?_
  show Goes p e below (T2.setTop (mkF m 5 #[.val (.ref a1), .val (.int (1 : Int32)), .val (.ref a2), .val (.int (1 : Int32)), .val (.int (2 : Int32)), .val (.int (1 : Int32)), .val (.int c0)] [(.int (1 : Int32))])) _
  refine Goes.via (fun t k => XS.iload X2.here hx rfl (hb hby d5_2_5) rfl k) ?_
  show Goes p e below (T2.setTop (mkF m 7 #[.val (.ref a1), .val (.int (1 : Int32)), .val (.ref a2), .val (.int (1 : Int32)), .val (.int (2 : Int32)), .val (.int (1 : Int32)), .val (.int c0)] [(.int (2 : Int32)), (.int (1 : Int32))])) _
  refine Goes.via (fun t k => XS.icmpNo X2.here hx rfl (hb hby d5_2_7) rfl (tlt (show (1 : Int32) < (2 : Int32) from (by decide))).2.1 k) ?_
  show Goes p e below (T2.setTop (mkF m 10 #[.val (.ref a1), .val (.int (1 : Int32)), .val (.ref a2), .val (.int (1 : Int32)), .val (.int (2 : Int32)), .val (.int (1 : Int32)), .val (.int c0)] [])) _
  refine Goes.via (fun t k => XS.aloadN X2.here hx rfl (hb hby d5_2_10) rfl rfl k) ?_
  show Goes p e below (T2.setTop (mkF m 11 #[.val (.ref a1), .val (.int (1 : Int32)), .val (.ref a2), .val (.int (1 : Int32)), .val (.int (2 : Int32)), .val (.int (1 : Int32)), .val (.int c0)] [(.ref a1)])) _
  refine Goes.via (fun t k => XS.iloadN X2.here hx rfl (hb hby d5_2_11) rfl k) ?_
  show Goes p e below (T2.setTop (mkF m 12 #[.val (.ref a1), .val (.int (1 : Int32)), .val (.ref a2), .val (.int (1 : Int32)), .val (.int (2 : Int32)), .val (.int (1 : Int32)), .val (.int c0)] [(.int (1 : Int32)), (.ref a1)])) _
  obtain ⟨cl3, Ar3, qa3, Sa3, Na3, Ha3, Ga3⟩ := id F2_39
  have hin3 : ¬ ((1 : Int32) < 0 ∨ cl3.slots.size ≤ ((1 : Int32)).toNatClampNeg) := inb_of Sa3 ⟨by decide, by decide⟩
  have hat3 : cl3.slots[((1 : Int32)).toNatClampNeg]? = some (.int c1) := Ha3.at hin3 rfl
  refine Goes.via (fun t k => X2.caload hx (j := (1 : Int32)) (v := (.int c1)) (by rw [e2]; exact Ar3.1) (State.isArrayOf_alike hZ.alike Ar3.2.1) Ar3.2.2 hin3 hat3 (g := (mkF m 12 #[.val (.ref a1), .val (.int (1 : Int32)), .val (.ref a2), .val (.int (1 : Int32)), .val (.int (2 : Int32)), .val (.int (1 : Int32)), .val (.int c0)] [(.int (1 : Int32)), (.ref a1)])) rfl rfl (hb hby d5_2_12) _ k) ?_
  show Goes p e below (T2.setTop (mkF m 13 #[.val (.ref a1), .val (.int (1 : Int32)), .val (.ref a2), .val (.int (1 : Int32)), .val (.int (2 : Int32)), .val (.int (1 : Int32)), .val (.int c0)] [(.int c1)])) _
  refine Goes.via (fun t k => XS.istore X2.here hx rfl (hb hby d5_2_13) rfl (l' := #[.val (.ref a1), .val (.int (1 : Int32)), .val (.ref a2), .val (.int (1 : Int32)), .val (.int (2 : Int32)), .val (.int (1 : Int32)), .val (.int c1)]) rfl k) ?_
  show Goes p e below (T2.setTop (mkF m 15 #[.val (.ref a1), .val (.int (1 : Int32)), .val (.ref a2), .val (.int (1 : Int32)), .val (.int (2 : Int32)), .val (.int (1 : Int32)), .val (.int c1)] [])) _
  refine Goes.via (fun t k => XS.iload X2.here hx rfl (hb hby d5_2_15) rfl k) ?_
  show Goes p e below (T2.setTop (mkF m 17 #[.val (.ref a1), .val (.int (1 : Int32)), .val (.ref a2), .val (.int (1 : Int32)), .val (.int (2 : Int32)), .val (.int (1 : Int32)), .val (.int c1)] [(.int c1)])) _
  refine Goes.via (fun t k => XS.sipush X2.here hx rfl (hb hby d5_2_17) k) ?_
  show Goes p e below (T2.setTop (mkF m 20 #[.val (.ref a1), .val (.int (1 : Int32)), .val (.ref a2), .val (.int (1 : Int32)), .val (.int (2 : Int32)), .val (.int (1 : Int32)), .val (.int c1)] [(.int (255 : Int32)), (.int c1)])) _
  refine Goes.via (fun t k => XS.icmpYes X2.here hx rfl (pc0 := 20) (pc' := 26) rfl (hb hby d5_2_20) rfl (flt hc1).2.2.2 (by decide) (by decide) k) ?_
  show Goes p e below (T2.setTop (mkF m 26 #[.val (.ref a1), .val (.int (1 : Int32)), .val (.ref a2), .val (.int (1 : Int32)), .val (.int (2 : Int32)), .val (.int (1 : Int32)), .val (.int c1)] [])) _
  refine Goes.via (fun t k => XS.aloadN X2.here hx rfl (hb hby d5_2_26) rfl rfl k) ?_
  show Goes p e below (T2.setTop (mkF m 27 #[.val (.ref a1), .val (.int (1 : Int32)), .val (.ref a2), .val (.int (1 : Int32)), .val (.int (2 : Int32)), .val (.int (1 : Int32)), .val (.int c1)] [(.ref a2)])) _
  refine Goes.via (fun t k => XS.iloadN X2.here hx rfl (hb hby d5_2_27) rfl k) ?_
  show Goes p e below (T2.setTop (mkF m 28 #[.val (.ref a1), .val (.int (1 : Int32)), .val (.ref a2), .val (.int (1 : Int32)), .val (.int (2 : Int32)), .val (.int (1 : Int32)), .val (.int c1)] [(.int (1 : Int32)), (.ref a2)])) _
  refine Goes.via (fun t k => XS.iload X2.here hx rfl (hb hby d5_2_28) rfl k) ?_
  show Goes p e below (T2.setTop (mkF m 30 #[.val (.ref a1), .val (.int (1 : Int32)), .val (.ref a2), .val (.int (1 : Int32)), .val (.int (2 : Int32)), .val (.int (1 : Int32)), .val (.int c1)] [(.int c1), (.int (1 : Int32)), (.ref a2)])) _
  refine Goes.via (fun t k => XS.i2b X2.here hx rfl (hb hby d5_2_30) rfl k) ?_
  show Goes p e below (T2.setTop (mkF m 31 #[.val (.ref a1), .val (.int (1 : Int32)), .val (.ref a2), .val (.int (1 : Int32)), .val (.int (2 : Int32)), .val (.int (1 : Int32)), .val (.int c1)] [(.int (c1.toInt8.toInt32)), (.int (1 : Int32)), (.ref a2)])) _
  obtain ⟨cl4, Ar4, qa4, Sa4, Na4, Ha4, Ga4⟩ := V2
  have hin4 : ¬ ((1 : Int32) < 0 ∨ cl4.slots.size ≤ ((1 : Int32)).toNatClampNeg) := inb_of Sa4 ⟨by decide, by decide⟩
  obtain ⟨T4, h4, X4, e4, W4, st4⟩ := stB X2 hx hZ e2 Ar4 (j := (1 : Int32)) hin4 (g := (mkF m 31 #[.val (.ref a1), .val (.int (1 : Int32)), .val (.ref a2), .val (.int (1 : Int32)), .val (.int (2 : Int32)), .val (.int (1 : Int32)), .val (.int c1)] [(.int (c1.toInt8.toInt32)), (.int (1 : Int32)), (.ref a2)])) rfl rfl (hb hby d5_2_31)
  have V4 : Arv Z h4 a2 k2 .byte (2 : Int32) [(.int (nar .byte (c0.toInt8.toInt32))), (.int (nar .byte (c1.toInt8.toInt32)))] (.int (0 : Int32)) := Arv.set Ar4 qa4 Sa4 Na4 Ha4 Ga4 (fits_nar_byte _) W4 1 rfl (Nat.le_of_ble_eq_true rfl)
  have F4_88 := F2_39.other W4 (Nat.ne_of_lt lt12)
  have K4 : Keep h0 h4 [a2] := K2.wr W4 (Or.inl (List.mem_of_getElem? (i := 0) rfl))
  have Z4 : n0 ≤ h4.size := Nat.le_trans Z2 (Keep.of_wr W4).1
  have N4 := Fr.snoc X4 N2 g2
  refine Goes.via st4 ?_
  show Goes p e below (T4.setTop (mkF m 32 #[.val (.ref a1), .val (.int (1 : Int32)), .val (.ref a2), .val (.int (1 : Int32)), .val (.int (2 : Int32)), .val (.int (1 : Int32)), .val (.int c1)] [])) _
  refine Goes.via (fun t k => XS.iinc X4.here hx rfl (hb hby d5_2_32) rfl (l' := #[.val (.ref a1), .val (.int (2 : Int32)), .val (.ref a2), .val (.int (1 : Int32)), .val (.int (2 : Int32)), .val (.int (1 : Int32)), .val (.int c1)]) rfl k) ?_
  show Goes p e below (T4.setTop (mkF m 35 #[.val (.ref a1), .val (.int (2 : Int32)), .val (.ref a2), .val (.int (1 : Int32)), .val (.int (2 : Int32)), .val (.int (1 : Int32)), .val (.int c1)] [])) _
  refine Goes.via (fun t k => XS.iinc X4.here hx rfl (hb hby d5_2_35) rfl (l' := #[.val (.ref a1), .val (.int (2 : Int32)), .val (.ref a2), .val (.int (2 : Int32)), .val (.int (2 : Int32)), .val (.int (1 : Int32)), .val (.int c1)]) rfl k) ?_
  show Goes p e below (T4.setTop (mkF m 38 #[.val (.ref a1), .val (.int (2 : Int32)), .val (.ref a2), .val (.int (2 : Int32)), .val (.int (2 : Int32)), .val (.int (1 : Int32)), .val (.int c1)] [])) _
  refine Goes.via (fun t k => XS.iinc X4.here hx rfl (hb hby d5_2_38) rfl (l' := #[.val (.ref a1), .val (.int (2 : Int32)), .val (.ref a2), .val (.int (2 : Int32)), .val (.int (2 : Int32)), .val (.int (2 : Int32)), .val (.int c1)]) rfl k) ?_
  show Goes p e below (T4.setTop (mkF m 41 #[.val (.ref a1), .val (.int (2 : Int32)), .val (.ref a2), .val (.int (2 : Int32)), .val (.int (2 : Int32)), .val (.int (2 : Int32)), .val (.int c1)] [])) _
  refine Goes.via (fun t k => XS.goto X4.here hx rfl (pc0 := 41) (pc' := 3) rfl (hb hby d5_2_41) (by decide) (by decide) k) ?_
  show Goes p e below (T4.setTop (mkF m 3 #[.val (.ref a1), .val (.int (2 : Int32)), .val (.ref a2), .val (.int (2 : Int32)), .val (.int (2 : Int32)), .val (.int (2 : Int32)), .val (.int c1)] [])) _
  refine Goes.via (fun t k => XS.iload X4.here hx rfl (hb hby d5_2_3) rfl k) ?_
  show Goes p e below (T4.setTop (mkF m 5 #[.val (.ref a1), .val (.int (2 : Int32)), .val (.ref a2), .val (.int (2 : Int32)), .val (.int (2 : Int32)), .val (.int (2 : Int32)), .val (.int c1)] [(.int (2 : Int32))])) _
  refine Goes.via (fun t k => XS.iload X4.here hx rfl (hb hby d5_2_5) rfl k) ?_
  show Goes p e below (T4.setTop (mkF m 7 #[.val (.ref a1), .val (.int (2 : Int32)), .val (.ref a2), .val (.int (2 : Int32)), .val (.int (2 : Int32)), .val (.int (2 : Int32)), .val (.int c1)] [(.int (2 : Int32)), (.int (2 : Int32))])) _
  refine Goes.via (fun t k => XS.icmpYes X4.here hx rfl (pc0 := 7) (pc' := 44) rfl (hb hby d5_2_7) rfl (flt (show ¬ ((2 : Int32) < (2 : Int32)) from (by decide))).2.1 (by decide) (by decide) k) ?_
  show Goes p e below (T4.setTop (mkF m 44 #[.val (.ref a1), .val (.int (2 : Int32)), .val (.ref a2), .val (.int (2 : Int32)), .val (.int (2 : Int32)), .val (.int (2 : Int32)), .val (.int c1)] [])) _
  refine Goes.via (fun t k => XS.iload X4.here hx rfl (hb hby d5_2_44) rfl k) ?_
  show Goes p e below (T4.setTop (mkF m 46 #[.val (.ref a1), .val (.int (2 : Int32)), .val (.ref a2), .val (.int (2 : Int32)), .val (.int (2 : Int32)), .val (.int (2 : Int32)), .val (.int c1)] [(.int (2 : Int32))])) _
  obtain ⟨fs, hr, hrun, hended, hW, hsame⟩ := X4.leave (v := some (.int (2 : Int32))) (fun h => by rw [Bd.returns] at h; cases h)
  refine ⟨_, _, ?_, hrun, hended, _, _, rfl, ?_, ⟨_, rfl⟩, hW, hsame.mono (by decide) (by decide)⟩
  · exact retI X4 hx Bd.returns (hb hby d5_2_46) hr
  · show Q5_2 Z a2 k2 c0 c1 h0 n0 _ T4.heap _
    rw [e4]
    exact ⟨rfl, N4, K4, V4⟩
theorem d4_2_0 : decode jdk_52_method_16_code 0 = .ok (.iload_n 2, 1) := by decide +kernel
theorem d4_2_1 : decode jdk_52_method_16_code 1 = .ok (.newarray .byte, 2) := by decide +kernel
theorem d4_2_3 : decode jdk_52_method_16_code 3 = .ok (.astore_n 3, 1) := by decide +kernel
theorem d4_2_4 : decode jdk_52_method_16_code 4 = .ok (.aload_n 0, 1) := by decide +kernel
theorem d4_2_5 : decode jdk_52_method_16_code 5 = .ok (.iload_n 1, 1) := by decide +kernel
theorem d4_2_6 : decode jdk_52_method_16_code 6 = .ok (.aload_n 3, 1) := by decide +kernel
theorem d4_2_7 : decode jdk_52_method_16_code 7 = .ok (.iconst 0, 1) := by decide +kernel
theorem d4_2_8 : decode jdk_52_method_16_code 8 = .ok (.iload_n 2, 1) := by decide +kernel
theorem d4_2_9 : decode jdk_52_method_16_code 9 = .ok (.invokestatic 115, 3) := by decide +kernel
theorem d4_2_12 : decode jdk_52_method_16_code 12 = .ok (.istore 4, 2) := by decide +kernel
theorem d4_2_14 : decode jdk_52_method_16_code 14 = .ok (.iload 4, 2) := by decide +kernel
theorem d4_2_16 : decode jdk_52_method_16_code 16 = .ok (.iload_n 2, 1) := by decide +kernel
theorem d4_2_17 : decode jdk_52_method_16_code 17 = .ok (.if_icmp .eq 40, 3) := by decide +kernel
theorem d4_2_57 : decode jdk_52_method_16_code 57 = .ok (.aload_n 3, 1) := by decide +kernel
theorem d4_2_58 : decode jdk_52_method_16_code 58 = .ok (.areturn, 1) := by decide +kernel
theorem pn_4_2 : plainName "java/lang/StringUTF16" = true := by first | (simp [plainName, overriddenIn]; done) | decide +kernel
theorem pd_4_2_0 : parseMethodDescriptor "([CI[BII)I" = some ⟨[(.array .char), .int, (.array .byte), .int, .int], some .int⟩ := by decide +kernel
theorem ef_4_2 (m : MethodId) (x0 : Addr) : entryFrame m #[(.ref x0), (.int (0 : Int32)), (.int (2 : Int32))] 6 = mkF m 0 #[.val (.ref x0), .val (.int (0 : Int32)), .val (.int (2 : Int32)), .unset, .unset, .unset] [] := by first | (simp [entryFrame, mkF, argsToLocals, Value.category]; done) | rfl
def Q4_2 (Z : State) (c0 c1 : Int32) (h0 : Heap) (n0 : Nat) (v : Option Value) (h : Heap) (L : List Loc) : Prop := ∃ (t : Addr) (k : ClassId), v = some (.ref t) ∧ Fr n0 L ∧ n0 ≤ t ∧ h0.size ≤ t ∧ Keep h0 h [] ∧ Arv Z h t k .byte (2 : Int32) [(.int (nar .byte (c0.toInt8.toInt32))), (.int (nar .byte (c1.toInt8.toInt32)))] (.int (0 : Int32))
set_option maxRecDepth 65536 in
set_option maxHeartbeats 40000000 in
theorem rm4_2 (l : Launch) (Z : State) (a0 : Array Value) (hw : ∀ d ∈ tables_1, d.before a0 Z = true) (ws : List Jvm.Cond) (a1 : Addr) (k1 : ClassId) (c0 c1 : Int32) (h0 : Heap) (n0 : Nat) (Z0 : n0 ≤ h0.size) (V1 : Arv Z h0 a1 k1 .char (2 : Int32) [(.int c0), (.int c1)] (.int (0 : Int32))) (hc0 : ¬ ((255 : Int32) < c0)) (hc1 : ¬ ((255 : Int32) < c1)) :
    MetFree l (⟨"java/lang/StringUTF16", "compress", "([CII)[B"⟩ : MethodName) (head1 (Jvm.Cond.code (⟨"java/lang/StringUTF16", "compress", "([CII)[B"⟩ : MethodName) jdk_52_method_16_code 6 (some (.array .byte)) :: ws) ({ frames := 1, cells := 1, slots := 2, locals := 18 } : Room)) (fun a U => a = #[(.ref a1), (.int (0 : Int32)), (.int (2 : Int32))] ∧ Z.Warmed39 U.vm ∧ U.heap = h0) (fun _ _ _ _ _ => True) (fun _ U o U' => ∃ v L, o = .returned v ∧ Q4_2 Z c0 c1 h0 n0 v U'.heap L ∧ FrameEnd U o U' L ({ frames := 1, cells := 1, slots := 2, locals := 18 } : Room).cells ({ frames := 1, cells := 1, slots := 2, locals := 18 } : Room).slots) := by
  refine MetFree.of_bodySF (plainFor_of_name pn_4_2) hisR ?_
  intro p e s m args below meth c s₁ Bd hml0 hP hK
  obtain ⟨rfl, hZ, hh⟩ := hP
  have hx := Bd.exec
  have hby := Bd.bytes
  have hml : c.maxLocals = 6 := hml0
  have hown : s.vm.findClass "java/lang/StringUTF16" = some m.cls := findClass_of_methodNamed Bd.named
  have hnm := (name_of_methodNamed Bd.named Bd.method).1
  have X0 : Stand p l e ({ frames := 1, cells := 1, slots := 2, locals := 18 } : Room) s m #[(.ref a1), (.int (0 : Int32)), (.int (2 : Int32))] below meth c s₁ [] 0 0 := Stand.of_body Bd
  have e0 : s₁.heap = h0 := by rw [← hh, Bd.state]; rfl
  have N0 := Fr.nil n0
  refine Goes.via (next := s₁.setTop (mkF m 0 #[.val (.ref a1), .val (.int (0 : Int32)), .val (.int (2 : Int32)), .unset, .unset, .unset] [])) (fun t k => castTop (ef_4_2 m a1) k) ?_
  refine Goes.via (fun t k => XS.iloadN X0.here hx rfl (hb hby d4_2_0) rfl k) ?_
  show Goes p e below (s₁.setTop (mkF m 1 #[.val (.ref a1), .val (.int (0 : Int32)), .val (.int (2 : Int32)), .unset, .unset, .unset] [(.int (2 : Int32))])) _
  obtain ⟨T1, h1, ka1, X1, e1, E1, A1, st1⟩ := newP X0 hx hZ (hw _ (List.mem_of_getElem? (i := 19) rfl)) e0 (g := (mkF m 1 #[.val (.ref a1), .val (.int (0 : Int32)), .val (.int (2 : Int32)), .unset, .unset, .unset] [(.int (2 : Int32))])) rfl (hb hby d4_2_1) rfl (by decide) (cap := 2) (by decide) (by decide) (by decide) (by decide)
  obtain ⟨b1, g1⟩ : ∃ z, z = h0.size := ⟨_, rfl⟩
  rw [← g1] at A1 st1
  have lt_a1_b1 : a1 < b1 := Nat.lt_of_lt_of_le V1.lt (Nat.le_of_eq g1.symm)
  have ge_b1 : n0 ≤ b1 := Nat.le_trans Z0 (Nat.le_of_eq g1.symm)
  have sz_b1 : h0.size ≤ b1 := Nat.le_trans (Keep.refl h0 []).1 (Nat.le_of_eq g1.symm)
  have F1_8 := V1.ext E1
  have K1 : Keep h0 h1 [] := (Keep.refl h0 []).ext E1
  have Z1 : n0 ≤ h1.size := Nat.le_trans Z0 E1.1
  have V1 : Arv Z h1 b1 ka1 .byte (2 : Int32) [(.int (0 : Int32)), (.int (0 : Int32))] (.int (0 : Int32)) := (Arv.new A1 (by decide)).pad (pad_rep [] (.int (0 : Int32)) 2)
  refine Goes.via st1 ?_
  show Goes p e below (T1.setTop (mkF m 3 #[.val (.ref a1), .val (.int (0 : Int32)), .val (.int (2 : Int32)), .unset, .unset, .unset] [(.ref b1)])) _
  refine Goes.via (fun t k => XS.astoreN X1.here hx rfl (hb hby d4_2_3) rfl rfl (l' := #[.val (.ref a1), .val (.int (0 : Int32)), .val (.int (2 : Int32)), .val (.ref b1), .unset, .unset]) rfl k) ?_
  show Goes p e below (T1.setTop (mkF m 4 #[.val (.ref a1), .val (.int (0 : Int32)), .val (.int (2 : Int32)), .val (.ref b1), .unset, .unset] [])) _
  refine Goes.via (fun t k => XS.aloadN X1.here hx rfl (hb hby d4_2_4) rfl rfl k) ?_
  show Goes p e below (T1.setTop (mkF m 5 #[.val (.ref a1), .val (.int (0 : Int32)), .val (.int (2 : Int32)), .val (.ref b1), .unset, .unset] [(.ref a1)])) _
  refine Goes.via (fun t k => XS.iloadN X1.here hx rfl (hb hby d4_2_5) rfl k) ?_
  show Goes p e below (T1.setTop (mkF m 6 #[.val (.ref a1), .val (.int (0 : Int32)), .val (.int (2 : Int32)), .val (.ref b1), .unset, .unset] [(.int (0 : Int32)), (.ref a1)])) _
  refine Goes.via (fun t k => XS.aloadN X1.here hx rfl (hb hby d4_2_6) rfl rfl k) ?_
  show Goes p e below (T1.setTop (mkF m 7 #[.val (.ref a1), .val (.int (0 : Int32)), .val (.int (2 : Int32)), .val (.ref b1), .unset, .unset] [(.ref b1), (.int (0 : Int32)), (.ref a1)])) _
  refine Goes.via (fun t k => XS.iconst X1.here hx rfl (hb hby d4_2_7) k) ?_
  show Goes p e below (T1.setTop (mkF m 8 #[.val (.ref a1), .val (.int (0 : Int32)), .val (.int (2 : Int32)), .val (.ref b1), .unset, .unset] [(.int (0 : Int32)), (.ref b1), (.int (0 : Int32)), (.ref a1)])) _
  refine Goes.via (fun t k => XS.iloadN X1.here hx rfl (hb hby d4_2_8) rfl k) ?_
  show Goes p e below (T1.setTop (mkF m 9 #[.val (.ref a1), .val (.int (0 : Int32)), .val (.int (2 : Int32)), .val (.ref b1), .unset, .unset] [(.int (2 : Int32)), (.int (0 : Int32)), (.ref b1), (.int (0 : Int32)), (.ref a1)])) _
  obtain ⟨_, _, ⟨T2, L2, k2, n2⟩, -, X2, ⟨Lc2, hQ2, l2, y2, z2⟩, st2⟩ := Jvm.LawKit.callS X1 hx (y := (⟨"java/lang/StringUTF16", "compress", "([CI[BII)I"⟩ : MethodName)) hown (mvT hZ (hw _ (List.mem_of_getElem? (i := 20) rfl))) (mvT hZ (hw _ (List.mem_of_getElem? (i := 21) rfl))) (mvT hZ (hw _ (List.mem_of_getElem? (i := 17) rfl))) (mvT hZ (hw _ (List.mem_of_getElem? (i := 22) rfl))) (by decide) (backOf (W := 0) (rm5_2 l Z a0 hw [] a1 b1 k1 ka1 c0 c1 h1 n0 Z1 F1_8 V1 ge_b1 lt_a1_b1 hc0 hc1) hZ (hw _ (List.mem_of_getElem? (i := 22) rfl)) (hw _ (List.mem_of_getElem? (i := 17) rfl)) (by decide) (by decide)) (g := (mkF m 9 #[.val (.ref a1), .val (.int (0 : Int32)), .val (.int (2 : Int32)), .val (.ref b1), .unset, .unset] [(.int (2 : Int32)), (.int (0 : Int32)), (.ref b1), (.int (0 : Int32)), (.ref a1)])) rfl (by rw [hml]; rfl) (argsL := [(.ref a1), (.int (0 : Int32)), (.ref b1), (.int (0 : Int32)), (.int (2 : Int32))]) (rest := []) (lenOf pd_4_2_0 rfl) rfl (by show 2 * 0 + _ ≤ _; exact Nat.le_of_eq rfl) (hb hby d4_2_9) (fun _ _ => ⟨rfl, e1, (by decide : 1 + 0 ≤ _), (by decide : 2 + 0 ≤ _)⟩)
  dsimp only [Pt.U, Pt.locs, Pt.cells, Pt.slots] at X2 l2 y2 z2 st2 hQ2
  subst l2 y2 z2
  obtain ⟨rfl, N2q, Kc2, Vc2⟩ := hQ2
  have F2_30 := F1_8.keep Kc2 (fun q => (Nat.ne_of_lt lt_a1_b1) (List.mem_singleton.mp q))
  have K2 : Keep h0 T2.heap [] := K1.trans Kc2 (fun x hx => by cases List.mem_singleton.mp hx; exact Or.inr sz_b1)
  have Z2 : n0 ≤ T2.heap.size := Nat.le_trans Z1 Kc2.1
  have N2 := Fr.app N0 N2q
  refine Goes.via st2 ?_
  show Goes p e below (T2.setTop (mkF m 12 #[.val (.ref a1), .val (.int (0 : Int32)), .val (.int (2 : Int32)), .val (.ref b1), .unset, .unset] [(.int (2 : Int32))])) _
  refine Goes.via (fun t k => XS.istore X2.here hx rfl (hb hby d4_2_12) rfl (l' := #[.val (.ref a1), .val (.int (0 : Int32)), .val (.int (2 : Int32)), .val (.ref b1), .val (.int (2 : Int32)), .unset]) rfl k) ?_
  show Goes p e below (T2.setTop (mkF m 14 #[.val (.ref a1), .val (.int (0 : Int32)), .val (.int (2 : Int32)), .val (.ref b1), .val (.int (2 : Int32)), .unset] [])) _
  refine Goes.via (fun t k => XS.iload X2.here hx rfl (hb hby d4_2_14) rfl k) ?_
  show Goes p e below (T2.setTop (mkF m 16 #[.val (.ref a1), .val (.int (0 : Int32)), .val (.int (2 : Int32)), .val (.ref b1), .val (.int (2 : Int32)), .unset] [(.int (2 : Int32))])) _
  refine Goes.via (fun t k => XS.iloadN X2.here hx rfl (hb hby d4_2_16) rfl k) ?_
  show Goes p e below (T2.setTop (mkF m 17 #[.val (.ref a1), .val (.int (0 : Int32)), .val (.int (2 : Int32)), .val (.ref b1), .val (.int (2 : Int32)), .unset] [(.int (2 : Int32)), (.int (2 : Int32))])) _
  refine Goes.via (fun t k => XS.icmpYes X2.here hx rfl (pc0 := 17) (pc' := 57) rfl (hb hby d4_2_17) rfl (teq (show (2 : Int32) = (2 : Int32) from rfl)).1 (by decide) (by decide) k) ?_
  show Goes p e below (T2.setTop (mkF m 57 #[.val (.ref a1), .val (.int (0 : Int32)), .val (.int (2 : Int32)), .val (.ref b1), .val (.int (2 : Int32)), .unset] [])) _
  refine Goes.via (fun t k => XS.aloadN X2.here hx rfl (hb hby d4_2_57) rfl rfl k) ?_
  show Goes p e below (T2.setTop (mkF m 58 #[.val (.ref a1), .val (.int (0 : Int32)), .val (.int (2 : Int32)), .val (.ref b1), .val (.int (2 : Int32)), .unset] [(.ref b1)])) _
  obtain ⟨fs, hr, hrun, hended, hW, hsame⟩ := X2.leave (v := some (.ref b1)) (fun h => by rw [Bd.returns] at h; cases h)
  refine ⟨_, _, ?_, hrun, hended, _, _, rfl, ?_, ⟨_, rfl⟩, hW, hsame.mono (by decide) (by decide)⟩
  · exact retOut X2 hx (t := (.array .byte)) Bd.returns rfl (Or.inr (Or.inr (Or.inr (Or.inr ⟨rfl, rfl, rfl⟩)))) (hb hby d4_2_58) hr
  · exact ⟨b1, _, rfl, N2, ge_b1, sz_b1, K2, Vc2⟩
theorem d6_2_0 : decode jdk_52_method_15_code 0 = .ok (.iload_n 1, 1) := by decide +kernel
theorem d6_2_1 : decode jdk_52_method_15_code 1 = .ok (.aload_n 0, 1) := by decide +kernel
theorem d6_2_2 : decode jdk_52_method_15_code 2 = .ok (.arraylength, 1) := by decide +kernel
theorem d6_2_3 : decode jdk_52_method_15_code 3 = .ok (.isub, 1) := by decide +kernel
theorem d6_2_4 : decode jdk_52_method_15_code 4 = .ok (.bipush 31, 2) := by decide +kernel
theorem d6_2_6 : decode jdk_52_method_15_code 6 = .ok (.iushr, 1) := by decide +kernel
theorem d6_2_7 : decode jdk_52_method_15_code 7 = .ok (.i2b, 1) := by decide +kernel
theorem d6_2_8 : decode jdk_52_method_15_code 8 = .ok (.ireturn, 1) := by decide +kernel
theorem pn_6_2 : plainName "java/lang/StringUTF16" = true := by first | (simp [plainName, overriddenIn]; done) | decide +kernel
theorem ef_6_2 (m : MethodId) (x0 : Addr) : entryFrame m #[(.ref x0), (.int (2 : Int32))] 2 = mkF m 0 #[.val (.ref x0), .val (.int (2 : Int32))] [] := by first | (simp [entryFrame, mkF, argsToLocals, Value.category]; done) | rfl
def Q6_2 (Z : State) (h0 : Heap) (n0 : Nat) (v : Option Value) (h : Heap) (L : List Loc) : Prop := v = some (.int (0 : Int32)) ∧ Fr n0 L ∧ h = h0
set_option maxRecDepth 65536 in
set_option maxHeartbeats 40000000 in
theorem rm6_2 (l : Launch) (Z : State) (a0 : Array Value) (hw : ∀ d ∈ tables_1, d.before a0 Z = true) (ws : List Jvm.Cond) (a1 : Addr) (k1 : ClassId) (vs : List Value) (h0 : Heap) (n0 : Nat) (Z0 : n0 ≤ h0.size) (V1 : Arv Z h0 a1 k1 .byte (2 : Int32) vs (.int (0 : Int32))) :
    MetFree l (⟨"java/lang/StringUTF16", "coderFromArrayLen", "([BI)B"⟩ : MethodName) (head1 (Jvm.Cond.code (⟨"java/lang/StringUTF16", "coderFromArrayLen", "([BI)B"⟩ : MethodName) jdk_52_method_15_code 2 (some .byte) :: ws) ({ frames := 0, cells := 0, slots := 0, locals := 0 } : Room)) (fun a U => a = #[(.ref a1), (.int (2 : Int32))] ∧ Z.Warmed39 U.vm ∧ U.heap = h0) (fun _ _ _ _ _ => True) (fun _ U o U' => ∃ v L, o = .returned v ∧ Q6_2 Z  h0 n0 v U'.heap L ∧ FrameEnd U o U' L ({ frames := 0, cells := 0, slots := 0, locals := 0 } : Room).cells ({ frames := 0, cells := 0, slots := 0, locals := 0 } : Room).slots) := by
  refine MetFree.of_bodySF (plainFor_of_name pn_6_2) hisR ?_
  intro p e s m args below meth c s₁ Bd hml0 hP hK
  obtain ⟨rfl, hZ, hh⟩ := hP
  have hx := Bd.exec
  have hby := Bd.bytes
  have hml : c.maxLocals = 2 := hml0
  have hown : s.vm.findClass "java/lang/StringUTF16" = some m.cls := findClass_of_methodNamed Bd.named
  have hnm := (name_of_methodNamed Bd.named Bd.method).1
  have X0 : Stand p l e ({ frames := 0, cells := 0, slots := 0, locals := 0 } : Room) s m #[(.ref a1), (.int (2 : Int32))] below meth c s₁ [] 0 0 := Stand.of_body Bd
  have e0 : s₁.heap = h0 := by rw [← hh, Bd.state]; rfl
  have N0 := Fr.nil n0
  refine Goes.via (next := s₁.setTop (mkF m 0 #[.val (.ref a1), .val (.int (2 : Int32))] [])) (fun t k => castTop (ef_6_2 m a1) k) ?_
  refine Goes.via (fun t k => XS.iloadN X0.here hx rfl (hb hby d6_2_0) rfl k) ?_
  show Goes p e below (s₁.setTop (mkF m 1 #[.val (.ref a1), .val (.int (2 : Int32))] [(.int (2 : Int32))])) _
  refine Goes.via (fun t k => XS.aloadN X0.here hx rfl (hb hby d6_2_1) rfl rfl k) ?_
  show Goes p e below (s₁.setTop (mkF m 2 #[.val (.ref a1), .val (.int (2 : Int32))] [(.ref a1), (.int (2 : Int32))])) _
  obtain ⟨cl1, Ar1, -, Sa1, Na1, -, -⟩ := id V1
  refine Goes.via (next := s₁.setTop (mkF m 3 #[.val (.ref a1), .val (.int (2 : Int32))] [(.int (2 : Int32)), (.int (2 : Int32))])) (fun t k => X0.arraylength hx (by rw [e0]; exact Ar1.1) (State.isArrayOf_alike hZ.alike Ar1.2.1) (g := (mkF m 2 #[.val (.ref a1), .val (.int (2 : Int32))] [(.ref a1), (.int (2 : Int32))])) rfl rfl (hb hby d6_2_2) _ (by rw [len_of Sa1 Na1]; exact k)) ?_
  show Goes p e below (s₁.setTop (mkF m 3 #[.val (.ref a1), .val (.int (2 : Int32))] [(.int (2 : Int32)), (.int (2 : Int32))])) _
  refine Goes.via (fun t k => XS.isub X0.here hx rfl (hb hby d6_2_3) rfl k) ?_
  show Goes p e below (s₁.setTop (mkF m 4 #[.val (.ref a1), .val (.int (2 : Int32))] [(.int (0 : Int32))])) _
  refine Goes.via (fun t k => XS.bipush X0.here hx rfl (hb hby d6_2_4) k) ?_
  show Goes p e below (s₁.setTop (mkF m 6 #[.val (.ref a1), .val (.int (2 : Int32))] [(.int (31 : Int32)), (.int (0 : Int32))])) _
  refine Goes.via (fun t k => XS.iushr X0.here hx rfl (hb hby d6_2_6) rfl k) ?_
  show Goes p e below (s₁.setTop (mkF m 7 #[.val (.ref a1), .val (.int (2 : Int32))] [(.int (0 : Int32))])) _
  refine Goes.via (fun t k => XS.i2b X0.here hx rfl (hb hby d6_2_7) rfl k) ?_
  show Goes p e below (s₁.setTop (mkF m 8 #[.val (.ref a1), .val (.int (2 : Int32))] [(.int (0 : Int32))])) _
  obtain ⟨fs, hr, hrun, hended, hW, hsame⟩ := X0.leave (v := some (.int (0 : Int32))) (fun h => by rw [Bd.returns] at h; cases h)
  refine ⟨_, _, ?_, hrun, hended, _, _, rfl, ?_, ⟨_, rfl⟩, hW, hsame.mono (by decide) (by decide)⟩
  · exact retN X0 hx (t := .byte) Bd.returns (by simp) (hb hby d6_2_8) hr
  · show Q6_2 Z  h0 n0 _ s₁.heap _
    rw [e0]
    exact ⟨rfl, N0, rfl⟩
theorem d2_2_0 : decode jdk_42_method_149_code 0 = .ok (.aload_n 0, 1) := by decide +kernel
theorem d2_2_1 : decode jdk_42_method_149_code 1 = .ok (.invokespecial 1, 3) := by decide +kernel
theorem d2_2_4 : decode jdk_42_method_149_code 4 = .ok (.iload_n 3, 1) := by decide +kernel
theorem d2_2_5 : decode jdk_42_method_149_code 5 = .ok (.ifCond .ne 22, 3) := by decide +kernel
theorem d2_2_27 : decode jdk_42_method_149_code 27 = .ok (.getstatic 38, 3) := by decide +kernel
theorem d2_2_30 : decode jdk_42_method_149_code 30 = .ok (.ifCond .eq 28, 3) := by decide +kernel
theorem d2_2_33 : decode jdk_42_method_149_code 33 = .ok (.aload_n 1, 1) := by decide +kernel
theorem d2_2_34 : decode jdk_42_method_149_code 34 = .ok (.iload_n 2, 1) := by decide +kernel
theorem d2_2_35 : decode jdk_42_method_149_code 35 = .ok (.iload_n 3, 1) := by decide +kernel
theorem d2_2_36 : decode jdk_42_method_149_code 36 = .ok (.invokestatic 177, 3) := by decide +kernel
theorem d2_2_39 : decode jdk_42_method_149_code 39 = .ok (.astore 5, 2) := by decide +kernel
theorem d2_2_41 : decode jdk_42_method_149_code 41 = .ok (.aload_n 0, 1) := by decide +kernel
theorem d2_2_42 : decode jdk_42_method_149_code 42 = .ok (.aload 5, 2) := by decide +kernel
theorem d2_2_44 : decode jdk_42_method_149_code 44 = .ok (.iload_n 3, 1) := by decide +kernel
theorem d2_2_45 : decode jdk_42_method_149_code 45 = .ok (.invokestatic 47, 3) := by decide +kernel
theorem d2_2_48 : decode jdk_42_method_149_code 48 = .ok (.putfield 15, 3) := by decide +kernel
theorem d2_2_51 : decode jdk_42_method_149_code 51 = .ok (.aload_n 0, 1) := by decide +kernel
theorem d2_2_52 : decode jdk_42_method_149_code 52 = .ok (.aload 5, 2) := by decide +kernel
theorem d2_2_54 : decode jdk_42_method_149_code 54 = .ok (.putfield 9, 3) := by decide +kernel
theorem d2_2_57 : decode jdk_42_method_149_code 57 = .ok (.return_, 1) := by decide +kernel
theorem pn_2_2 : plainName "java/lang/String" = true := by first | (simp [plainName, overriddenIn]; done) | decide +kernel
theorem pd_2_2_0 : parseMethodDescriptor "([CII)[B" = some ⟨[(.array .char), .int, .int], some (.array .byte)⟩ := by decide +kernel
theorem pd_2_2_1 : parseMethodDescriptor "([BI)B" = some ⟨[(.array .byte), .int], some .byte⟩ := by decide +kernel
theorem ef_2_2 (m : MethodId) (x0 : Addr) (x1 : Addr) : entryFrame m #[(.ref x0), (.ref x1), (.int (0 : Int32)), (.int (2 : Int32)), .null] 6 = mkF m 0 #[.val (.ref x0), .val (.ref x1), .val (.int (0 : Int32)), .val (.int (2 : Int32)), .val .null, .unset] [] := by first | (simp [entryFrame, mkF, argsToLocals, Value.category]; done) | rfl
def Q2_2 (Z : State) (a1 : Addr) (c0 c1 : Int32) (h0 : Heap) (n0 : Nat) (v : Option Value) (h : Heap) (L : List Loc) : Prop := v = none ∧ Fr n0 L ∧ Keep h0 h [a1] ∧ Exa Z h a1 "java/lang/String" ∧ Fld Z h a1 "java/lang/String" "coder" "B" (.int (0 : Int32)) ∧ ∃ (t : Addr) (k : ClassId), n0 ≤ t ∧ h0.size ≤ t ∧ Fld Z h a1 "java/lang/String" "value" "[B" (.ref t) ∧ Arv Z h t k .byte (2 : Int32) [(.int (nar .byte (c0.toInt8.toInt32))), (.int (nar .byte (c1.toInt8.toInt32)))] (.int (0 : Int32))
set_option maxRecDepth 65536 in
set_option maxHeartbeats 40000000 in
theorem rm2_2 (l : Launch) (Z : State) (a0 : Array Value) (hw : ∀ d ∈ tables_1, d.before a0 Z = true) (ws : List Jvm.Cond) (a1 : Addr) (a2 : Addr) (k2 : ClassId) (c0 c1 : Int32) (w0 : Int32) (h0 : Heap) (n0 : Nat) (Z0 : n0 ≤ h0.size) (E1 : Exa Z h0 a1 "java/lang/String") (Fv : Fld Z h0 a1 "java/lang/String" "value" "[B" .null) (Fc : Fld Z h0 a1 "java/lang/String" "coder" "B" (.int (0 : Int32))) (V2 : Arv Z h0 a2 k2 .char (2 : Int32) [(.int c0), (.int c1)] (.int (0 : Int32))) (g1 : n0 ≤ a1) (ne12 : a1 ≠ a2) (O0 : Old Z n0 h0) (St : own_St Z w0) (hc0 : ¬ ((255 : Int32) < c0)) (hc1 : ¬ ((255 : Int32) < c1)) :
    MetFree l (⟨"java/lang/String", "<init>", "([CIILjava/lang/Void;)V"⟩ : MethodName) (head1 (Jvm.Cond.code (⟨"java/lang/String", "<init>", "([CIILjava/lang/Void;)V"⟩ : MethodName) jdk_42_method_149_code 6 none :: ws) ({ frames := 2, cells := 1, slots := 2, locals := 35 } : Room)) (fun a U => a = #[(.ref a1), (.ref a2), (.int (0 : Int32)), (.int (2 : Int32)), .null] ∧ Z.Warmed39 U.vm ∧ U.heap = h0) (fun _ _ _ _ _ => True) (fun _ U o U' => ∃ v L, o = .returned v ∧ Q2_2 Z a1 c0 c1 h0 n0 v U'.heap L ∧ FrameEnd U o U' L ({ frames := 2, cells := 1, slots := 2, locals := 35 } : Room).cells ({ frames := 2, cells := 1, slots := 2, locals := 35 } : Room).slots) := by
  refine MetFree.of_bodySF (plainFor_of_name pn_2_2) hisR ?_
  intro p e s m args below meth c s₁ Bd hml0 hP hK
  obtain ⟨rfl, hZ, hh⟩ := hP
  have hx := Bd.exec
  have hby := Bd.bytes
  have hml : c.maxLocals = 6 := hml0
  have hown : s.vm.findClass "java/lang/String" = some m.cls := findClass_of_methodNamed Bd.named
  have hnm := (name_of_methodNamed Bd.named Bd.method).1
  have X0 : Stand p l e ({ frames := 2, cells := 1, slots := 2, locals := 35 } : Room) s m #[(.ref a1), (.ref a2), (.int (0 : Int32)), (.int (2 : Int32)), .null] below meth c s₁ [] 0 0 := Stand.of_body Bd
  have e0 : s₁.heap = h0 := by rw [← hh, Bd.state]; rfl
  have N0 := Fr.nil n0
  refine Goes.via (next := s₁.setTop (mkF m 0 #[.val (.ref a1), .val (.ref a2), .val (.int (0 : Int32)), .val (.int (2 : Int32)), .val .null, .unset] [])) (fun t k => castTop (ef_2_2 m a1 a2) k) ?_
  refine Goes.via (fun t k => XS.aloadN X0.here hx rfl (hb hby d2_2_0) rfl rfl k) ?_
  show Goes p e below (s₁.setTop (mkF m 1 #[.val (.ref a1), .val (.ref a2), .val (.int (0 : Int32)), .val (.int (2 : Int32)), .val .null, .unset] [(.ref a1)])) _
  obtain ⟨T1, X1, e1, st1⟩ := initO X0 hx hZ hown (hw _ (List.mem_of_getElem? (i := 11) rfl)) (hw _ (List.mem_of_getElem? (i := 12) rfl)) (hw _ (List.mem_of_getElem? (i := 13) rfl)) e0 (g := (mkF m 1 #[.val (.ref a1), .val (.ref a2), .val (.int (0 : Int32)), .val (.int (2 : Int32)), .val .null, .unset] [(.ref a1)])) rfl (by rw [hml]; rfl) rfl (hb hby d2_2_1) (by decide) (W := 0) (by show 2 * 0 + _ ≤ _; exact Nat.le_of_eq rfl) (by decide)
  refine Goes.via st1 ?_
  show Goes p e below (T1.setTop (mkF m 4 #[.val (.ref a1), .val (.ref a2), .val (.int (0 : Int32)), .val (.int (2 : Int32)), .val .null, .unset] [])) _
  refine Goes.via (fun t k => XS.iloadN X1.here hx rfl (hb hby d2_2_4) rfl k) ?_
  show Goes p e below (T1.setTop (mkF m 5 #[.val (.ref a1), .val (.ref a2), .val (.int (0 : Int32)), .val (.int (2 : Int32)), .val .null, .unset] [(.int (2 : Int32))])) _
  refine Goes.via (fun t k => XS.ifYes X1.here hx rfl (pc0 := 5) (pc' := 27) rfl (hb hby d2_2_5) rfl ((if0 _ _).trans (feq (show ¬ ((2 : Int32) = (0 : Int32)) from (by decide))).2) (by decide) (by decide) k) ?_
  show Goes p e below (T1.setTop (mkF m 27 #[.val (.ref a1), .val (.ref a2), .val (.int (0 : Int32)), .val (.int (2 : Int32)), .val .null, .unset] [])) _
  obtain ⟨T2, X2, e2, st2⟩ := getS2 X1 hx hZ hown (host := "") (Or.inl (hw _ (List.mem_of_getElem? (i := 14) rfl))) Via.refl e1 (St.1.ext O0.2) (g := (mkF m 27 #[.val (.ref a1), .val (.ref a2), .val (.int (0 : Int32)), .val (.int (2 : Int32)), .val .null, .unset] [])) rfl (hb hby d2_2_27)
  refine Goes.via st2 ?_
  show Goes p e below (T2.setTop (mkF m 30 #[.val (.ref a1), .val (.ref a2), .val (.int (0 : Int32)), .val (.int (2 : Int32)), .val .null, .unset] [(.int w0)])) _
  have hc30_3 : ¬ (w0 = (0 : Int32)) := St.2
  refine Goes.via (fun t k => XS.ifNo X2.here hx rfl (hb hby d2_2_30) rfl ((if0 _ _).trans (feq hc30_3).1) k) ?_
  show Goes p e below (T2.setTop (mkF m 33 #[.val (.ref a1), .val (.ref a2), .val (.int (0 : Int32)), .val (.int (2 : Int32)), .val .null, .unset] [])) _
  refine Goes.via (fun t k => XS.aloadN X2.here hx rfl (hb hby d2_2_33) rfl rfl k) ?_
  show Goes p e below (T2.setTop (mkF m 34 #[.val (.ref a1), .val (.ref a2), .val (.int (0 : Int32)), .val (.int (2 : Int32)), .val .null, .unset] [(.ref a2)])) _
  refine Goes.via (fun t k => XS.iloadN X2.here hx rfl (hb hby d2_2_34) rfl k) ?_
  show Goes p e below (T2.setTop (mkF m 35 #[.val (.ref a1), .val (.ref a2), .val (.int (0 : Int32)), .val (.int (2 : Int32)), .val .null, .unset] [(.int (0 : Int32)), (.ref a2)])) _
  refine Goes.via (fun t k => XS.iloadN X2.here hx rfl (hb hby d2_2_35) rfl k) ?_
  show Goes p e below (T2.setTop (mkF m 36 #[.val (.ref a1), .val (.ref a2), .val (.int (0 : Int32)), .val (.int (2 : Int32)), .val .null, .unset] [(.int (2 : Int32)), (.int (0 : Int32)), (.ref a2)])) _
  obtain ⟨_, _, ⟨T4, L4, k4, n4⟩, -, X4, ⟨Lc4, hQ4, l4, y4, z4⟩, st4⟩ := Jvm.LawKit.callS X2 hx (y := (⟨"java/lang/StringUTF16", "compress", "([CII)[B"⟩ : MethodName)) hown (mvT hZ (hw _ (List.mem_of_getElem? (i := 15) rfl))) (mvT hZ (hw _ (List.mem_of_getElem? (i := 16) rfl))) (mvT hZ (hw _ (List.mem_of_getElem? (i := 17) rfl))) (mvT hZ (hw _ (List.mem_of_getElem? (i := 18) rfl))) (by decide) (backOf (W := 0) (rm4_2 l Z a0 hw [] a2 k2 c0 c1 h0 n0 Z0 V2 hc0 hc1) hZ (hw _ (List.mem_of_getElem? (i := 18) rfl)) (hw _ (List.mem_of_getElem? (i := 17) rfl)) (by decide) (by decide)) (g := (mkF m 36 #[.val (.ref a1), .val (.ref a2), .val (.int (0 : Int32)), .val (.int (2 : Int32)), .val .null, .unset] [(.int (2 : Int32)), (.int (0 : Int32)), (.ref a2)])) rfl (by rw [hml]; rfl) (argsL := [(.ref a2), (.int (0 : Int32)), (.int (2 : Int32))]) (rest := []) (lenOf pd_2_2_0 rfl) rfl (by show 2 * 0 + _ ≤ _; exact Nat.le_of_eq rfl) (hb hby d2_2_36) (fun _ _ => ⟨rfl, e2, (by decide : 0 + 1 ≤ _), (by decide : 0 + 2 ≤ _)⟩)
  dsimp only [Pt.U, Pt.locs, Pt.cells, Pt.slots] at X4 l4 y4 z4 st4 hQ4
  subst l4 y4 z4
  obtain ⟨t4, kt4, rfl, N4q, gt4, zt4, Kc4, Vc4⟩ := hQ4
  have lt_a1_t4 : a1 < t4 := Nat.lt_of_lt_of_le E1.lt zt4
  have lt_a2_t4 : a2 < t4 := Nat.lt_of_lt_of_le V2.lt zt4
  have sz_t4 : h0.size ≤ t4 := Nat.le_trans (Keep.refl h0 [a1]).1 zt4
  have F4_28 := E1.keep Kc4
  have F4_29 := Fv.keep Kc4 List.not_mem_nil
  have F4_30 := Fc.keep Kc4 List.not_mem_nil
  have F4_31 := V2.keep Kc4 List.not_mem_nil
  have K4 : Keep h0 T4.heap [a1] := (Keep.refl h0 [a1]).trans Kc4 (fun x hx => nomatch hx)
  have Z4 : n0 ≤ T4.heap.size := Nat.le_trans Z0 Kc4.1
  have O4 := O0.keep Kc4 (fun x hx => nomatch hx)
  have N4 := Fr.app N0 N4q
  refine Goes.via st4 ?_
  show Goes p e below (T4.setTop (mkF m 39 #[.val (.ref a1), .val (.ref a2), .val (.int (0 : Int32)), .val (.int (2 : Int32)), .val .null, .unset] [(.ref t4)])) _
  refine Goes.via (fun t k => XS.astore X4.here hx rfl (hb hby d2_2_39) rfl rfl (l' := #[.val (.ref a1), .val (.ref a2), .val (.int (0 : Int32)), .val (.int (2 : Int32)), .val .null, .val (.ref t4)]) rfl k) ?_
  show Goes p e below (T4.setTop (mkF m 41 #[.val (.ref a1), .val (.ref a2), .val (.int (0 : Int32)), .val (.int (2 : Int32)), .val .null, .val (.ref t4)] [])) _
  refine Goes.via (fun t k => XS.aloadN X4.here hx rfl (hb hby d2_2_41) rfl rfl k) ?_
  show Goes p e below (T4.setTop (mkF m 42 #[.val (.ref a1), .val (.ref a2), .val (.int (0 : Int32)), .val (.int (2 : Int32)), .val .null, .val (.ref t4)] [(.ref a1)])) _
  refine Goes.via (fun t k => XS.aload X4.here hx rfl (hb hby d2_2_42) rfl rfl k) ?_
  show Goes p e below (T4.setTop (mkF m 44 #[.val (.ref a1), .val (.ref a2), .val (.int (0 : Int32)), .val (.int (2 : Int32)), .val .null, .val (.ref t4)] [(.ref t4), (.ref a1)])) _
  refine Goes.via (fun t k => XS.iloadN X4.here hx rfl (hb hby d2_2_44) rfl k) ?_
  show Goes p e below (T4.setTop (mkF m 45 #[.val (.ref a1), .val (.ref a2), .val (.int (0 : Int32)), .val (.int (2 : Int32)), .val .null, .val (.ref t4)] [(.int (2 : Int32)), (.ref t4), (.ref a1)])) _
  obtain ⟨Lw5, X5w, N5w⟩ := ownPack X4 N4
  obtain ⟨_, _, ⟨T6, L6, k6, n6⟩, -, X6, ⟨Lc6, hQ6, l6, y6, z6⟩, st6⟩ := Jvm.LawKit.callS X5w hx (y := (⟨"java/lang/StringUTF16", "coderFromArrayLen", "([BI)B"⟩ : MethodName)) hown (mvT hZ (hw _ (List.mem_of_getElem? (i := 23) rfl))) (mvT hZ (hw _ (List.mem_of_getElem? (i := 24) rfl))) (mvT hZ (hw _ (List.mem_of_getElem? (i := 17) rfl))) (mvT hZ (hw _ (List.mem_of_getElem? (i := 25) rfl))) (by decide) (backOf (W := 1) (rm6_2 l Z a0 hw [] t4 kt4 _ T4.heap n0 Z4 Vc4) hZ (hw _ (List.mem_of_getElem? (i := 25) rfl)) (hw _ (List.mem_of_getElem? (i := 17) rfl)) (by decide) (by decide)) (g := (mkF m 45 #[.val (.ref a1), .val (.ref a2), .val (.int (0 : Int32)), .val (.int (2 : Int32)), .val .null, .val (.ref t4)] [(.int (2 : Int32)), (.ref t4), (.ref a1)])) rfl (by rw [hml]; rfl) (argsL := [(.ref t4), (.int (2 : Int32))]) (rest := [(.ref a1)]) (lenOf pd_2_2_1 rfl) rfl (by show 2 * 0 + _ ≤ _; exact Nat.le_of_eq rfl) (hb hby d2_2_45) (fun _ _ => ⟨rfl, rfl, (by decide : 1 + 0 ≤ _), (by decide : 2 + 0 ≤ _)⟩)
  dsimp only [Pt.U, Pt.locs, Pt.cells, Pt.slots] at X6 l6 y6 z6 st6 hQ6
  subst l6 y6 z6
  obtain ⟨rfl, N6q, er6⟩ := hQ6
  have e6 : T6.heap = T4.heap := er6
  have N6 := Fr.app N5w N6q
  refine Goes.via st6 ?_
  show Goes p e below (T6.setTop (mkF m 48 #[.val (.ref a1), .val (.ref a2), .val (.int (0 : Int32)), .val (.int (2 : Int32)), .val .null, .val (.ref t4)] [(.int (0 : Int32)), (.ref a1)])) _
  obtain ⟨T7, h7, X7, e7, W7, st7⟩ := putFN X6 hx hZ hown (hw _ (List.mem_of_getElem? (i := 26) rfl)) Via.refl e6 F4_30 F4_28 (Or.inr ⟨(hw _ (List.mem_of_getElem? (i := 27) rfl)), rfl, hnm⟩) (hw _ (List.mem_of_getElem? (i := 2) rfl)) (ty := .byte) (v' := (.int (0 : Int32))) (by decide) rfl (by decide) (g := (mkF m 48 #[.val (.ref a1), .val (.ref a2), .val (.int (0 : Int32)), .val (.int (2 : Int32)), .val .null, .val (.ref t4)] [(.int (0 : Int32)), (.ref a1)])) rfl rfl (hb hby d2_2_48)
  have Fw7 := F4_30.same W7
  have F7_57 := F4_28.wr W7
  have F7_58 := F4_29.other W7 (Or.inr (slot_ne (Or.inr (hw _ (List.mem_of_getElem? (i := 29) rfl))) (Or.inr (hw _ (List.mem_of_getElem? (i := 27) rfl))) (by decide) (t := (.array .byte)) (t' := .byte) (by decide) (by decide)))
  have F7_59 := F4_31.other W7 (Ne.symm ne12)
  have F7_60 := Vc4.other W7 (Nat.ne_of_gt lt_a1_t4)
  have K7 : Keep h0 h7 [a1] := K4.wr W7 (Or.inl (List.mem_of_getElem? (i := 0) rfl))
  have Z7 : n0 ≤ h7.size := Nat.le_trans Z4 (Keep.of_wr W7).1
  have N7 := Fr.snoc X7 N6 g1
  have O7 := O4.wr W7 g1
  refine Goes.via st7 ?_
  show Goes p e below (T7.setTop (mkF m 51 #[.val (.ref a1), .val (.ref a2), .val (.int (0 : Int32)), .val (.int (2 : Int32)), .val .null, .val (.ref t4)] [])) _
  refine Goes.via (fun t k => XS.aloadN X7.here hx rfl (hb hby d2_2_51) rfl rfl k) ?_
  show Goes p e below (T7.setTop (mkF m 52 #[.val (.ref a1), .val (.ref a2), .val (.int (0 : Int32)), .val (.int (2 : Int32)), .val .null, .val (.ref t4)] [(.ref a1)])) _
  refine Goes.via (fun t k => XS.aload X7.here hx rfl (hb hby d2_2_52) rfl rfl k) ?_
  show Goes p e below (T7.setTop (mkF m 54 #[.val (.ref a1), .val (.ref a2), .val (.int (0 : Int32)), .val (.int (2 : Int32)), .val .null, .val (.ref t4)] [(.ref t4), (.ref a1)])) _
  obtain ⟨T8, h8, X8, e8, W8, st8⟩ := putF X7 hx hZ hown (host := "") (Or.inl (hw _ (List.mem_of_getElem? (i := 28) rfl))) Via.refl e7 F7_58 F7_57 (Or.inr ⟨(hw _ (List.mem_of_getElem? (i := 29) rfl)), rfl, hnm⟩) (hw _ (List.mem_of_getElem? (i := 2) rfl)) (ty := (.array .byte)) (by decide) rfl rfl (g := (mkF m 54 #[.val (.ref a1), .val (.ref a2), .val (.int (0 : Int32)), .val (.int (2 : Int32)), .val .null, .val (.ref t4)] [(.ref t4), (.ref a1)])) rfl rfl (hb hby d2_2_54)
  have Fw8 := F7_58.same W8
  have F8_73 := F7_57.wr W8
  have F8_74 := F7_59.other W8 (Ne.symm ne12)
  have F8_75 := F7_60.other W8 (Nat.ne_of_gt lt_a1_t4)
  have F8_76 := Fw7.other W8 (Or.inr (slot_ne (Or.inr (hw _ (List.mem_of_getElem? (i := 27) rfl))) (Or.inr (hw _ (List.mem_of_getElem? (i := 29) rfl))) (by decide) (t := .byte) (t' := (.array .byte)) (by decide) (by decide)))
  have K8 : Keep h0 h8 [a1] := K7.wr W8 (Or.inl (List.mem_of_getElem? (i := 0) rfl))
  have Z8 : n0 ≤ h8.size := Nat.le_trans Z7 (Keep.of_wr W8).1
  have N8 := Fr.snoc X8 N7 g1
  have O8 := O7.wr W8 g1
  refine Goes.via st8 ?_
  show Goes p e below (T8.setTop (mkF m 57 #[.val (.ref a1), .val (.ref a2), .val (.int (0 : Int32)), .val (.int (2 : Int32)), .val .null, .val (.ref t4)] [])) _
  obtain ⟨fs, hr, hrun, hended, hW, hsame⟩ := X8.leave (v := none) (fun _ => rfl)
  refine ⟨_, _, ?_, hrun, hended, _, _, rfl, ?_, ⟨_, rfl⟩, hW, hsame.mono (by decide) (by decide)⟩
  · exact X8.returnOut hx Bd.returns (hb hby d2_2_57) hr
  · show Q2_2 Z a1 c0 c1 h0 n0 _ T8.heap _
    rw [e8]
    exact ⟨rfl, N8, K8, F8_73, F8_76, t4, _, gt4, sz_t4, Fw8, F8_75⟩
theorem d1_2_0 : decode jdk_42_method_3_code 0 = .ok (.aload_n 0, 1) := by decide +kernel
theorem d1_2_1 : decode jdk_42_method_3_code 1 = .ok (.aload_n 1, 1) := by decide +kernel
theorem d1_2_2 : decode jdk_42_method_3_code 2 = .ok (.iconst 0, 1) := by decide +kernel
theorem d1_2_3 : decode jdk_42_method_3_code 3 = .ok (.aload_n 1, 1) := by decide +kernel
theorem d1_2_4 : decode jdk_42_method_3_code 4 = .ok (.arraylength, 1) := by decide +kernel
theorem d1_2_5 : decode jdk_42_method_3_code 5 = .ok (.aconst_null, 1) := by decide +kernel
theorem d1_2_6 : decode jdk_42_method_3_code 6 = .ok (.invokespecial 27, 3) := by decide +kernel
theorem d1_2_9 : decode jdk_42_method_3_code 9 = .ok (.return_, 1) := by decide +kernel
theorem pn_1_2 : plainName "java/lang/String" = true := by first | (simp [plainName, overriddenIn]; done) | decide +kernel
theorem pd_1_2_0 : parseMethodDescriptor "([CIILjava/lang/Void;)V" = some ⟨[(.array .char), .int, .int, (.object "java/lang/Void")], none⟩ := by decide +kernel
theorem ef_1_2 (m : MethodId) (x0 : Addr) (x1 : Addr) : entryFrame m #[(.ref x0), (.ref x1)] 2 = mkF m 0 #[.val (.ref x0), .val (.ref x1)] [] := by first | (simp [entryFrame, mkF, argsToLocals, Value.category]; done) | rfl
def Q1_2 (Z : State) (a1 : Addr) (c0 c1 : Int32) (h0 : Heap) (n0 : Nat) (v : Option Value) (h : Heap) (L : List Loc) : Prop := v = none ∧ Fr n0 L ∧ Keep h0 h [a1] ∧ Exa Z h a1 "java/lang/String" ∧ Fld Z h a1 "java/lang/String" "coder" "B" (.int (0 : Int32)) ∧ ∃ (t : Addr) (k : ClassId), n0 ≤ t ∧ h0.size ≤ t ∧ Fld Z h a1 "java/lang/String" "value" "[B" (.ref t) ∧ Arv Z h t k .byte (2 : Int32) [(.int (nar .byte (c0.toInt8.toInt32))), (.int (nar .byte (c1.toInt8.toInt32)))] (.int (0 : Int32))
set_option maxRecDepth 65536 in
set_option maxHeartbeats 40000000 in
theorem rm1_2 (l : Launch) (Z : State) (a0 : Array Value) (hw : ∀ d ∈ tables_1, d.before a0 Z = true) (ws : List Jvm.Cond) (a1 : Addr) (a2 : Addr) (k2 : ClassId) (c0 c1 : Int32) (w0 : Int32) (h0 : Heap) (n0 : Nat) (Z0 : n0 ≤ h0.size) (E1 : Exa Z h0 a1 "java/lang/String") (Fv : Fld Z h0 a1 "java/lang/String" "value" "[B" .null) (Fc : Fld Z h0 a1 "java/lang/String" "coder" "B" (.int (0 : Int32))) (V2 : Arv Z h0 a2 k2 .char (2 : Int32) [(.int c0), (.int c1)] (.int (0 : Int32))) (g1 : n0 ≤ a1) (ne12 : a1 ≠ a2) (O0 : Old Z n0 h0) (St : own_St Z w0) (hc0 : ¬ ((255 : Int32) < c0)) (hc1 : ¬ ((255 : Int32) < c1)) :
    MetFree l (⟨"java/lang/String", "<init>", "([C)V"⟩ : MethodName) (head1 (Jvm.Cond.code (⟨"java/lang/String", "<init>", "([C)V"⟩ : MethodName) jdk_42_method_3_code 2 none :: ws) ({ frames := 3, cells := 1, slots := 2, locals := 52 } : Room)) (fun a U => a = #[(.ref a1), (.ref a2)] ∧ Z.Warmed39 U.vm ∧ U.heap = h0) (fun _ _ _ _ _ => True) (fun _ U o U' => ∃ v L, o = .returned v ∧ Q1_2 Z a1 c0 c1 h0 n0 v U'.heap L ∧ FrameEnd U o U' L ({ frames := 3, cells := 1, slots := 2, locals := 52 } : Room).cells ({ frames := 3, cells := 1, slots := 2, locals := 52 } : Room).slots) := by
  refine MetFree.of_bodySF (plainFor_of_name pn_1_2) hisR ?_
  intro p e s m args below meth c s₁ Bd hml0 hP hK
  obtain ⟨rfl, hZ, hh⟩ := hP
  have hx := Bd.exec
  have hby := Bd.bytes
  have hml : c.maxLocals = 2 := hml0
  have hown : s.vm.findClass "java/lang/String" = some m.cls := findClass_of_methodNamed Bd.named
  have hnm := (name_of_methodNamed Bd.named Bd.method).1
  have X0 : Stand p l e ({ frames := 3, cells := 1, slots := 2, locals := 52 } : Room) s m #[(.ref a1), (.ref a2)] below meth c s₁ [] 0 0 := Stand.of_body Bd
  have e0 : s₁.heap = h0 := by rw [← hh, Bd.state]; rfl
  have N0 := Fr.nil n0
  refine Goes.via (next := s₁.setTop (mkF m 0 #[.val (.ref a1), .val (.ref a2)] [])) (fun t k => castTop (ef_1_2 m a1 a2) k) ?_
  refine Goes.via (fun t k => XS.aloadN X0.here hx rfl (hb hby d1_2_0) rfl rfl k) ?_
  show Goes p e below (s₁.setTop (mkF m 1 #[.val (.ref a1), .val (.ref a2)] [(.ref a1)])) _
  refine Goes.via (fun t k => XS.aloadN X0.here hx rfl (hb hby d1_2_1) rfl rfl k) ?_
  show Goes p e below (s₁.setTop (mkF m 2 #[.val (.ref a1), .val (.ref a2)] [(.ref a2), (.ref a1)])) _
  refine Goes.via (fun t k => XS.iconst X0.here hx rfl (hb hby d1_2_2) k) ?_
  show Goes p e below (s₁.setTop (mkF m 3 #[.val (.ref a1), .val (.ref a2)] [(.int (0 : Int32)), (.ref a2), (.ref a1)])) _
  refine Goes.via (fun t k => XS.aloadN X0.here hx rfl (hb hby d1_2_3) rfl rfl k) ?_
  show Goes p e below (s₁.setTop (mkF m 4 #[.val (.ref a1), .val (.ref a2)] [(.ref a2), (.int (0 : Int32)), (.ref a2), (.ref a1)])) _
  obtain ⟨cl1, Ar1, -, Sa1, Na1, -, -⟩ := id V2
  refine Goes.via (next := s₁.setTop (mkF m 5 #[.val (.ref a1), .val (.ref a2)] [(.int (2 : Int32)), (.int (0 : Int32)), (.ref a2), (.ref a1)])) (fun t k => X0.arraylength hx (by rw [e0]; exact Ar1.1) (State.isArrayOf_alike hZ.alike Ar1.2.1) (g := (mkF m 4 #[.val (.ref a1), .val (.ref a2)] [(.ref a2), (.int (0 : Int32)), (.ref a2), (.ref a1)])) rfl rfl (hb hby d1_2_4) _ (by rw [len_of Sa1 Na1]; exact k)) ?_
  show Goes p e below (s₁.setTop (mkF m 5 #[.val (.ref a1), .val (.ref a2)] [(.int (2 : Int32)), (.int (0 : Int32)), (.ref a2), (.ref a1)])) _
  refine Goes.via (fun t k => XS.aconstNull X0.here hx rfl (hb hby d1_2_5) k) ?_
  show Goes p e below (s₁.setTop (mkF m 6 #[.val (.ref a1), .val (.ref a2)] [.null, (.int (2 : Int32)), (.int (0 : Int32)), (.ref a2), (.ref a1)])) _
  obtain ⟨_, _, ⟨T2, L2, k2, n2⟩, -, X2, ⟨Lc2, hQ2, l2, y2, z2⟩, st2⟩ := X0.specialBack hx (y := (⟨"java/lang/String", "<init>", "([CIILjava/lang/Void;)V"⟩ : MethodName)) rfl hown (mvT hZ (hw _ (List.mem_of_getElem? (i := 7) rfl))) (mvT hZ (hw _ (List.mem_of_getElem? (i := 8) rfl))) (mvT hZ (hw _ (List.mem_of_getElem? (i := 10) rfl))) (by decide) (backOf (W := 0) (rm2_2 l Z a0 hw [] a1 a2 k2 c0 c1 w0 h0 n0 Z0 E1 Fv Fc V2 g1 ne12 O0 St hc0 hc1) hZ (hw _ (List.mem_of_getElem? (i := 10) rfl)) (hw _ (List.mem_of_getElem? (i := 3) rfl)) (by decide) (by decide)) (g := (mkF m 6 #[.val (.ref a1), .val (.ref a2)] [.null, (.int (2 : Int32)), (.int (0 : Int32)), (.ref a2), (.ref a1)])) rfl (by rw [hml]; rfl) (Steps.refl _) (a := a1) (argsL := [(.ref a2), (.int (0 : Int32)), (.int (2 : Int32)), .null]) (rest := []) (lenOf pd_1_2_0 rfl) rfl (by show 2 * 0 + _ ≤ _; exact Nat.le_of_eq rfl) (hb hby d1_2_6) (fun _ _ => ⟨rfl, e0, (by decide : 0 + 1 ≤ _), (by decide : 0 + 2 ≤ _)⟩)
  dsimp only [Pt.U, Pt.locs, Pt.cells, Pt.slots] at X2 l2 y2 z2 st2 hQ2
  subst l2 y2 z2
  obtain ⟨rfl, N2q, Kc2, Ec2, Cc2, t2, kt2, gt2, zt2, Vq2, Vc2⟩ := hQ2
  have lt_a1_t2 : a1 < t2 := Nat.lt_of_lt_of_le E1.lt zt2
  have lt_a2_t2 : a2 < t2 := Nat.lt_of_lt_of_le V2.lt zt2
  have sz_t2 : h0.size ≤ t2 := Nat.le_trans (Keep.refl h0 [a1]).1 zt2
  have F2_20 := E1.keep Kc2
  have F2_21 := V2.keep Kc2 (fun q => (Ne.symm ne12) (List.mem_singleton.mp q))
  have K2 : Keep h0 T2.heap [a1] := (Keep.refl h0 [a1]).trans Kc2 (fun x hx => by cases List.mem_singleton.mp hx; exact Or.inl (List.mem_of_getElem? (i := 0) rfl))
  have Z2 : n0 ≤ T2.heap.size := Nat.le_trans Z0 Kc2.1
  have O2 := O0.keep Kc2 (fun x hx => by cases List.mem_singleton.mp hx; exact g1)
  have N2 := Fr.app N0 N2q
  refine Goes.via (fun t k => st2.trans k) ?_
  show Goes p e below (T2.setTop (mkF m 9 #[.val (.ref a1), .val (.ref a2)] [])) _
  obtain ⟨fs, hr, hrun, hended, hW, hsame⟩ := X2.leave (v := none) (fun _ => rfl)
  refine ⟨_, _, ?_, hrun, hended, _, _, rfl, ?_, ⟨_, rfl⟩, hW, hsame.mono (by decide) (by decide)⟩
  · exact X2.returnOut hx Bd.returns (hb hby d1_2_9) hr
  · show Q1_2 Z a1 c0 c1 h0 n0 _ T2.heap _
    exact ⟨rfl, N2, K2, F2_20, Cc2, t2, _, gt2, sz_t2, Vq2, Vc2⟩
theorem d5_3_0 : decode jdk_52_method_21_code 0 = .ok (.iconst 0, 1) := by decide +kernel
theorem d5_3_1 : decode jdk_52_method_21_code 1 = .ok (.istore 5, 2) := by decide +kernel
theorem d5_3_3 : decode jdk_52_method_21_code 3 = .ok (.iload 5, 2) := by decide +kernel
theorem d5_3_5 : decode jdk_52_method_21_code 5 = .ok (.iload 4, 2) := by decide +kernel
theorem d5_3_7 : decode jdk_52_method_21_code 7 = .ok (.if_icmp .ge 37, 3) := by decide +kernel
theorem d5_3_10 : decode jdk_52_method_21_code 10 = .ok (.aload_n 0, 1) := by decide +kernel
theorem d5_3_11 : decode jdk_52_method_21_code 11 = .ok (.iload_n 1, 1) := by decide +kernel
theorem d5_3_12 : decode jdk_52_method_21_code 12 = .ok (.caload, 1) := by decide +kernel
theorem d5_3_13 : decode jdk_52_method_21_code 13 = .ok (.istore 6, 2) := by decide +kernel
theorem d5_3_15 : decode jdk_52_method_21_code 15 = .ok (.iload 6, 2) := by decide +kernel
theorem d5_3_17 : decode jdk_52_method_21_code 17 = .ok (.sipush 255, 3) := by decide +kernel
theorem d5_3_20 : decode jdk_52_method_21_code 20 = .ok (.if_icmp .le 6, 3) := by decide +kernel
theorem d5_3_26 : decode jdk_52_method_21_code 26 = .ok (.aload_n 2, 1) := by decide +kernel
theorem d5_3_27 : decode jdk_52_method_21_code 27 = .ok (.iload_n 3, 1) := by decide +kernel
theorem d5_3_28 : decode jdk_52_method_21_code 28 = .ok (.iload 6, 2) := by decide +kernel
theorem d5_3_30 : decode jdk_52_method_21_code 30 = .ok (.i2b, 1) := by decide +kernel
theorem d5_3_31 : decode jdk_52_method_21_code 31 = .ok (.bastore, 1) := by decide +kernel
theorem d5_3_32 : decode jdk_52_method_21_code 32 = .ok (.iinc 1 1, 3) := by decide +kernel
theorem d5_3_35 : decode jdk_52_method_21_code 35 = .ok (.iinc 3 1, 3) := by decide +kernel
theorem d5_3_38 : decode jdk_52_method_21_code 38 = .ok (.iinc 5 1, 3) := by decide +kernel
theorem d5_3_41 : decode jdk_52_method_21_code 41 = .ok (.goto (-38), 3) := by decide +kernel
theorem d5_3_44 : decode jdk_52_method_21_code 44 = .ok (.iload 4, 2) := by decide +kernel
theorem d5_3_46 : decode jdk_52_method_21_code 46 = .ok (.ireturn, 1) := by decide +kernel
theorem pn_5_3 : plainName "java/lang/StringUTF16" = true := by first | (simp [plainName, overriddenIn]; done) | decide +kernel
theorem ef_5_3 (m : MethodId) (x0 : Addr) (x2 : Addr) : entryFrame m #[(.ref x0), (.int (0 : Int32)), (.ref x2), (.int (0 : Int32)), (.int (3 : Int32))] 7 = mkF m 0 #[.val (.ref x0), .val (.int (0 : Int32)), .val (.ref x2), .val (.int (0 : Int32)), .val (.int (3 : Int32)), .unset, .unset] [] := by first | (simp [entryFrame, mkF, argsToLocals, Value.category]; done) | rfl
def Q5_3 (Z : State) (a2 : Addr) (k2 : ClassId) (c0 c1 c2 : Int32) (h0 : Heap) (n0 : Nat) (v : Option Value) (h : Heap) (L : List Loc) : Prop := v = some (.int (3 : Int32)) ∧ Fr n0 L ∧ Keep h0 h [a2] ∧ Arv Z h a2 k2 .byte (3 : Int32) [(.int (nar .byte (c0.toInt8.toInt32))), (.int (nar .byte (c1.toInt8.toInt32))), (.int (nar .byte (c2.toInt8.toInt32)))] (.int (0 : Int32))
set_option maxRecDepth 65536 in
set_option maxHeartbeats 40000000 in
theorem rm5_3 (l : Launch) (Z : State) (a0 : Array Value) (hw : ∀ d ∈ tables_1, d.before a0 Z = true) (ws : List Jvm.Cond) (a1 : Addr) (a2 : Addr) (k1 k2 : ClassId) (c0 c1 c2 : Int32) (h0 : Heap) (n0 : Nat) (Z0 : n0 ≤ h0.size) (V1 : Arv Z h0 a1 k1 .char (3 : Int32) [(.int c0), (.int c1), (.int c2)] (.int (0 : Int32))) (V2 : Arv Z h0 a2 k2 .byte (3 : Int32) [(.int (0 : Int32)), (.int (0 : Int32)), (.int (0 : Int32))] (.int (0 : Int32))) (g2 : n0 ≤ a2) (lt12 : a1 < a2) (hc0 : ¬ ((255 : Int32) < c0)) (hc1 : ¬ ((255 : Int32) < c1)) (hc2 : ¬ ((255 : Int32) < c2)) :
    MetFree l (⟨"java/lang/StringUTF16", "compress", "([CI[BII)I"⟩ : MethodName) (head1 (Jvm.Cond.code (⟨"java/lang/StringUTF16", "compress", "([CI[BII)I"⟩ : MethodName) jdk_52_method_21_code 7 (some .int) :: ws) ({ frames := 0, cells := 0, slots := 0, locals := 0 } : Room)) (fun a U => a = #[(.ref a1), (.int (0 : Int32)), (.ref a2), (.int (0 : Int32)), (.int (3 : Int32))] ∧ Z.Warmed39 U.vm ∧ U.heap = h0) (fun _ _ _ _ _ => True) (fun _ U o U' => ∃ v L, o = .returned v ∧ Q5_3 Z a2 k2 c0 c1 c2 h0 n0 v U'.heap L ∧ FrameEnd U o U' L ({ frames := 0, cells := 0, slots := 0, locals := 0 } : Room).cells ({ frames := 0, cells := 0, slots := 0, locals := 0 } : Room).slots) := by
  refine MetFree.of_bodySF (plainFor_of_name pn_5_3) hisR ?_
  intro p e s m args below meth c s₁ Bd hml0 hP hK
  obtain ⟨rfl, hZ, hh⟩ := hP
  have hx := Bd.exec
  have hby := Bd.bytes
  have hml : c.maxLocals = 7 := hml0
  have hown : s.vm.findClass "java/lang/StringUTF16" = some m.cls := findClass_of_methodNamed Bd.named
  have hnm := (name_of_methodNamed Bd.named Bd.method).1
  have X0 : Stand p l e ({ frames := 0, cells := 0, slots := 0, locals := 0 } : Room) s m #[(.ref a1), (.int (0 : Int32)), (.ref a2), (.int (0 : Int32)), (.int (3 : Int32))] below meth c s₁ [] 0 0 := Stand.of_body Bd
  have e0 : s₁.heap = h0 := by rw [← hh, Bd.state]; rfl
  have N0 := Fr.nil n0
  refine Goes.via (next := s₁.setTop (mkF m 0 #[.val (.ref a1), .val (.int (0 : Int32)), .val (.ref a2), .val (.int (0 : Int32)), .val (.int (3 : Int32)), .unset, .unset] [])) (fun t k => castTop (ef_5_3 m a1 a2) k) ?_
  refine Goes.via (fun t k => XS.iconst X0.here hx rfl (hb hby d5_3_0) k) ?_
  show Goes p e below (s₁.setTop (mkF m 1 #[.val (.ref a1), .val (.int (0 : Int32)), .val (.ref a2), .val (.int (0 : Int32)), .val (.int (3 : Int32)), .unset, .unset] [(.int (0 : Int32))])) _
  refine Goes.via (fun t k => XS.istore X0.here hx rfl (hb hby d5_3_1) rfl (l' := #[.val (.ref a1), .val (.int (0 : Int32)), .val (.ref a2), .val (.int (0 : Int32)), .val (.int (3 : Int32)), .val (.int (0 : Int32)), .unset]) rfl k) ?_
  show Goes p e below (s₁.setTop (mkF m 3 #[.val (.ref a1), .val (.int (0 : Int32)), .val (.ref a2), .val (.int (0 : Int32)), .val (.int (3 : Int32)), .val (.int (0 : Int32)), .unset] [])) _
  refine Goes.via (fun t k => XS.iload X0.here hx rfl (hb hby d5_3_3) rfl k) ?_
  show Goes p e below (s₁.setTop (mkF m 5 #[.val (.ref a1), .val (.int (0 : Int32)), .val (.ref a2), .val (.int (0 : Int32)), .val (.int (3 : Int32)), .val (.int (0 : Int32)), .unset] [(.int (0 : Int32))])) _
  refine Goes.via (fun t k => XS.iload X0.here hx rfl (hb hby d5_3_5) rfl k) ?_
  show Goes p e below (s₁.setTop (mkF m 7 #[.val (.ref a1), .val (.int (0 : Int32)), .val (.ref a2), .val (.int (0 : Int32)), .val (.int (3 : Int32)), .val (.int (0 : Int32)), .unset] [(.int (3 : Int32)), (.int (0 : Int32))])) _
  refine Goes.via (fun t k => XS.icmpNo X0.here hx rfl (hb hby d5_3_7) rfl (tlt (show (0 : Int32) < (3 : Int32) from (by decide))).2.1 k) ?_
  show Goes p e below (s₁.setTop (mkF m 10 #[.val (.ref a1), .val (.int (0 : Int32)), .val (.ref a2), .val (.int (0 : Int32)), .val (.int (3 : Int32)), .val (.int (0 : Int32)), .unset] [])) _
  refine Goes.via (fun t k => XS.aloadN X0.here hx rfl (hb hby d5_3_10) rfl rfl k) ?_
  show Goes p e below (s₁.setTop (mkF m 11 #[.val (.ref a1), .val (.int (0 : Int32)), .val (.ref a2), .val (.int (0 : Int32)), .val (.int (3 : Int32)), .val (.int (0 : Int32)), .unset] [(.ref a1)])) _
  refine Goes.via (fun t k => XS.iloadN X0.here hx rfl (hb hby d5_3_11) rfl k) ?_
  show Goes p e below (s₁.setTop (mkF m 12 #[.val (.ref a1), .val (.int (0 : Int32)), .val (.ref a2), .val (.int (0 : Int32)), .val (.int (3 : Int32)), .val (.int (0 : Int32)), .unset] [(.int (0 : Int32)), (.ref a1)])) _
  obtain ⟨cl1, Ar1, qa1, Sa1, Na1, Ha1, Ga1⟩ := id V1
  have hin1 : ¬ ((0 : Int32) < 0 ∨ cl1.slots.size ≤ ((0 : Int32)).toNatClampNeg) := inb_of Sa1 ⟨by decide, by decide⟩
  have hat1 : cl1.slots[((0 : Int32)).toNatClampNeg]? = some (.int c0) := Ha1.at hin1 rfl
  refine Goes.via (fun t k => X0.caload hx (j := (0 : Int32)) (v := (.int c0)) (by rw [e0]; exact Ar1.1) (State.isArrayOf_alike hZ.alike Ar1.2.1) Ar1.2.2 hin1 hat1 (g := (mkF m 12 #[.val (.ref a1), .val (.int (0 : Int32)), .val (.ref a2), .val (.int (0 : Int32)), .val (.int (3 : Int32)), .val (.int (0 : Int32)), .unset] [(.int (0 : Int32)), (.ref a1)])) rfl rfl (hb hby d5_3_12) _ k) ?_
  show Goes p e below (s₁.setTop (mkF m 13 #[.val (.ref a1), .val (.int (0 : Int32)), .val (.ref a2), .val (.int (0 : Int32)), .val (.int (3 : Int32)), .val (.int (0 : Int32)), .unset] [(.int c0)])) _
  refine Goes.via (fun t k => XS.istore X0.here hx rfl (hb hby d5_3_13) rfl (l' := #[.val (.ref a1), .val (.int (0 : Int32)), .val (.ref a2), .val (.int (0 : Int32)), .val (.int (3 : Int32)), .val (.int (0 : Int32)), .val (.int c0)]) rfl k) ?_
  show Goes p e below (s₁.setTop (mkF m 15 #[.val (.ref a1), .val (.int (0 : Int32)), .val (.ref a2), .val (.int (0 : Int32)), .val (.int (3 : Int32)), .val (.int (0 : Int32)), .val (.int c0)] [])) _
  refine Goes.via (fun t k => XS.iload X0.here hx rfl (hb hby d5_3_15) rfl k) ?_
  show Goes p e below (s₁.setTop (mkF m 17 #[.val (.ref a1), .val (.int (0 : Int32)), .val (.ref a2), .val (.int (0 : Int32)), .val (.int (3 : Int32)), .val (.int (0 : Int32)), .val (.int c0)] [(.int c0)])) _
  refine Goes.via (fun t k => XS.sipush X0.here hx rfl (hb hby d5_3_17) k) ?_
  show Goes p e below (s₁.setTop (mkF m 20 #[.val (.ref a1), .val (.int (0 : Int32)), .val (.ref a2), .val (.int (0 : Int32)), .val (.int (3 : Int32)), .val (.int (0 : Int32)), .val (.int c0)] [(.int (255 : Int32)), (.int c0)])) _
  refine Goes.via (fun t k => XS.icmpYes X0.here hx rfl (pc0 := 20) (pc' := 26) rfl (hb hby d5_3_20) rfl (flt hc0).2.2.2 (by decide) (by decide) k) ?_
  show Goes p e below (s₁.setTop (mkF m 26 #[.val (.ref a1), .val (.int (0 : Int32)), .val (.ref a2), .val (.int (0 : Int32)), .val (.int (3 : Int32)), .val (.int (0 : Int32)), .val (.int c0)] [])) _
  refine Goes.via (fun t k => XS.aloadN X0.here hx rfl (hb hby d5_3_26) rfl rfl k) ?_
  show Goes p e below (s₁.setTop (mkF m 27 #[.val (.ref a1), .val (.int (0 : Int32)), .val (.ref a2), .val (.int (0 : Int32)), .val (.int (3 : Int32)), .val (.int (0 : Int32)), .val (.int c0)] [(.ref a2)])) _
  refine Goes.via (fun t k => XS.iloadN X0.here hx rfl (hb hby d5_3_27) rfl k) ?_
  show Goes p e below (s₁.setTop (mkF m 28 #[.val (.ref a1), .val (.int (0 : Int32)), .val (.ref a2), .val (.int (0 : Int32)), .val (.int (3 : Int32)), .val (.int (0 : Int32)), .val (.int c0)] [(.int (0 : Int32)), (.ref a2)])) _
  refine Goes.via (fun t k => XS.iload X0.here hx rfl (hb hby d5_3_28) rfl k) ?_
  show Goes p e below (s₁.setTop (mkF m 30 #[.val (.ref a1), .val (.int (0 : Int32)), .val (.ref a2), .val (.int (0 : Int32)), .val (.int (3 : Int32)), .val (.int (0 : Int32)), .val (.int c0)] [(.int c0), (.int (0 : Int32)), (.ref a2)])) _
  refine Goes.via (fun t k => XS.i2b X0.here hx rfl (hb hby d5_3_30) rfl k) ?_
  show Goes p e below (s₁.setTop (mkF m 31 #[.val (.ref a1), .val (.int (0 : Int32)), .val (.ref a2), .val (.int (0 : Int32)), .val (.int (3 : Int32)), .val (.int (0 : Int32)), .val (.int c0)] [(.int (c0.toInt8.toInt32)), (.int (0 : Int32)), (.ref a2)])) _
  obtain ⟨cl2, Ar2, qa2, Sa2, Na2, Ha2, Ga2⟩ := V2
  have hin2 : ¬ ((0 : Int32) < 0 ∨ cl2.slots.size ≤ ((0 : Int32)).toNatClampNeg) := inb_of Sa2 ⟨by decide, by decide⟩
  obtain ⟨T2, h2, X2, e2, W2, st2⟩ := stB X0 hx hZ e0 Ar2 (j := (0 : Int32)) hin2 (g := (mkF m 31 #[.val (.ref a1), .val (.int (0 : Int32)), .val (.ref a2), .val (.int (0 : Int32)), .val (.int (3 : Int32)), .val (.int (0 : Int32)), .val (.int c0)] [(.int (c0.toInt8.toInt32)), (.int (0 : Int32)), (.ref a2)])) rfl rfl (hb hby d5_3_31)
  have V2 : Arv Z h2 a2 k2 .byte (3 : Int32) [(.int (nar .byte (c0.toInt8.toInt32))), (.int (0 : Int32)), (.int (0 : Int32))] (.int (0 : Int32)) := Arv.set Ar2 qa2 Sa2 Na2 Ha2 Ga2 (fits_nar_byte _) W2 0 rfl (Nat.le_of_ble_eq_true rfl)
  have F2_39 := V1.other W2 (Nat.ne_of_lt lt12)
  have K2 : Keep h0 h2 [a2] := (Keep.refl h0 [a2]).wr W2 (Or.inl (List.mem_of_getElem? (i := 0) rfl))
  have Z2 : n0 ≤ h2.size := Nat.le_trans Z0 (Keep.of_wr W2).1
  have N2 := Fr.snoc X2 N0 g2
  refine Goes.via st2 ?_
  show Goes p e below (T2.setTop (mkF m 32 #[.val (.ref a1), .val (.int (0 : Int32)), .val (.ref a2), .val (.int (0 : Int32)), .val (.int (3 : Int32)), .val (.int (0 : Int32)), .val (.int c0)] [])) _
  refine Goes.via (fun t k => XS.iinc X2.here hx rfl (hb hby d5_3_32) rfl (l' := #[.val (.ref a1), .val (.int (1 : Int32)), .val (.ref a2), .val (.int (0 : Int32)), .val (.int (3 : Int32)), .val (.int (0 : Int32)), .val (.int c0)]) rfl k) ?_
  show Goes p e below (T2.setTop (mkF m 35 #[.val (.ref a1), .val (.int (1 : Int32)), .val (.ref a2), .val (.int (0 : Int32)), .val (.int (3 : Int32)), .val (.int (0 : Int32)), .val (.int c0)] [])) _
  refine Goes.via (fun t k => XS.iinc X2.here hx rfl (hb hby d5_3_35) rfl (l' := #[.val (.ref a1), .val (.int (1 : Int32)), .val (.ref a2), .val (.int (1 : Int32)), .val (.int (3 : Int32)), .val (.int (0 : Int32)), .val (.int c0)]) rfl k) ?_
  show Goes p e below (T2.setTop (mkF m 38 #[.val (.ref a1), .val (.int (1 : Int32)), .val (.ref a2), .val (.int (1 : Int32)), .val (.int (3 : Int32)), .val (.int (0 : Int32)), .val (.int c0)] [])) _
  refine Goes.via (fun t k => XS.iinc X2.here hx rfl (hb hby d5_3_38) rfl (l' := #[.val (.ref a1), .val (.int (1 : Int32)), .val (.ref a2), .val (.int (1 : Int32)), .val (.int (3 : Int32)), .val (.int (1 : Int32)), .val (.int c0)]) rfl k) ?_
  show Goes p e below (T2.setTop (mkF m 41 #[.val (.ref a1), .val (.int (1 : Int32)), .val (.ref a2), .val (.int (1 : Int32)), .val (.int (3 : Int32)), .val (.int (1 : Int32)), .val (.int c0)] [])) _
  refine Goes.via (fun t k => XS.goto X2.here hx rfl (pc0 := 41) (pc' := 3) rfl (hb hby d5_3_41) (by decide) (by decide) k) ?_
  show Goes p e below (T2.setTop (mkF m 3 #[.val (.ref a1), .val (.int (1 : Int32)), .val (.ref a2), .val (.int (1 : Int32)), .val (.int (3 : Int32)), .val (.int (1 : Int32)), .val (.int c0)] [])) _
  refine Goes.via (fun t k => XS.iload X2.here hx rfl (hb hby d5_3_3) rfl k) ?_
  show Goes p e below (T2.setTop (mkF m 5 #[.val (.ref a1), .val (.int (1 : Int32)), .val (.ref a2), .val (.int (1 : Int32)), .val (.int (3 : Int32)), .val (.int (1 : Int32)), .val (.int c0)] [(.int (1 : Int32))])) _
  refine Goes.via (fun t k => XS.iload X2.here hx rfl (hb hby d5_3_5) rfl k) ?_
  show Goes p e below (T2.setTop (mkF m 7 #[.val (.ref a1), .val (.int (1 : Int32)), .val (.ref a2), .val (.int (1 : Int32)), .val (.int (3 : Int32)), .val (.int (1 : Int32)), .val (.int c0)] [(.int (3 : Int32)), (.int (1 : Int32))])) _
  refine Goes.via (fun t k => XS.icmpNo X2.here hx rfl (hb hby d5_3_7) rfl (tlt (show (1 : Int32) < (3 : Int32) from (by decide))).2.1 k) ?_
  show Goes p e below (T2.setTop (mkF m 10 #[.val (.ref a1), .val (.int (1 : Int32)), .val (.ref a2), .val (.int (1 : Int32)), .val (.int (3 : Int32)), .val (.int (1 : Int32)), .val (.int c0)] [])) _
  refine Goes.via (fun t k => XS.aloadN X2.here hx rfl (hb hby d5_3_10) rfl rfl k) ?_
  show Goes p e below (T2.setTop (mkF m 11 #[.val (.ref a1), .val (.int (1 : Int32)), .val (.ref a2), .val (.int (1 : Int32)), .val (.int (3 : Int32)), .val (.int (1 : Int32)), .val (.int c0)] [(.ref a1)])) _
  refine Goes.via (fun t k => XS.iloadN X2.here hx rfl (hb hby d5_3_11) rfl k) ?_
  show Goes p e below (T2.setTop (mkF m 12 #[.val (.ref a1), .val (.int (1 : Int32)), .val (.ref a2), .val (.int (1 : Int32)), .val (.int (3 : Int32)), .val (.int (1 : Int32)), .val (.int c0)] [(.int (1 : Int32)), (.ref a1)])) _
  obtain ⟨cl3, Ar3, qa3, Sa3, Na3, Ha3, Ga3⟩ := id F2_39
  have hin3 : ¬ ((1 : Int32) < 0 ∨ cl3.slots.size ≤ ((1 : Int32)).toNatClampNeg) := inb_of Sa3 ⟨by decide, by decide⟩
  have hat3 : cl3.slots[((1 : Int32)).toNatClampNeg]? = some (.int c1) := Ha3.at hin3 rfl
  refine Goes.via (fun t k => X2.caload hx (j := (1 : Int32)) (v := (.int c1)) (by rw [e2]; exact Ar3.1) (State.isArrayOf_alike hZ.alike Ar3.2.1) Ar3.2.2 hin3 hat3 (g := (mkF m 12 #[.val (.ref a1), .val (.int (1 : Int32)), .val (.ref a2), .val (.int (1 : Int32)), .val (.int (3 : Int32)), .val (.int (1 : Int32)), .val (.int c0)] [(.int (1 : Int32)), (.ref a1)])) rfl rfl (hb hby d5_3_12) _ k) ?_
  show Goes p e below (T2.setTop (mkF m 13 #[.val (.ref a1), .val (.int (1 : Int32)), .val (.ref a2), .val (.int (1 : Int32)), .val (.int (3 : Int32)), .val (.int (1 : Int32)), .val (.int c0)] [(.int c1)])) _
  refine Goes.via (fun t k => XS.istore X2.here hx rfl (hb hby d5_3_13) rfl (l' := #[.val (.ref a1), .val (.int (1 : Int32)), .val (.ref a2), .val (.int (1 : Int32)), .val (.int (3 : Int32)), .val (.int (1 : Int32)), .val (.int c1)]) rfl k) ?_
  show Goes p e below (T2.setTop (mkF m 15 #[.val (.ref a1), .val (.int (1 : Int32)), .val (.ref a2), .val (.int (1 : Int32)), .val (.int (3 : Int32)), .val (.int (1 : Int32)), .val (.int c1)] [])) _
  refine Goes.via (fun t k => XS.iload X2.here hx rfl (hb hby d5_3_15) rfl k) ?_
  show Goes p e below (T2.setTop (mkF m 17 #[.val (.ref a1), .val (.int (1 : Int32)), .val (.ref a2), .val (.int (1 : Int32)), .val (.int (3 : Int32)), .val (.int (1 : Int32)), .val (.int c1)] [(.int c1)])) _
  refine Goes.via (fun t k => XS.sipush X2.here hx rfl (hb hby d5_3_17) k) ?_
  show Goes p e below (T2.setTop (mkF m 20 #[.val (.ref a1), .val (.int (1 : Int32)), .val (.ref a2), .val (.int (1 : Int32)), .val (.int (3 : Int32)), .val (.int (1 : Int32)), .val (.int c1)] [(.int (255 : Int32)), (.int c1)])) _
  refine Goes.via (fun t k => XS.icmpYes X2.here hx rfl (pc0 := 20) (pc' := 26) rfl (hb hby d5_3_20) rfl (flt hc1).2.2.2 (by decide) (by decide) k) ?_
  show Goes p e below (T2.setTop (mkF m 26 #[.val (.ref a1), .val (.int (1 : Int32)), .val (.ref a2), .val (.int (1 : Int32)), .val (.int (3 : Int32)), .val (.int (1 : Int32)), .val (.int c1)] [])) _
  refine Goes.via (fun t k => XS.aloadN X2.here hx rfl (hb hby d5_3_26) rfl rfl k) ?_
  show Goes p e below (T2.setTop (mkF m 27 #[.val (.ref a1), .val (.int (1 : Int32)), .val (.ref a2), .val (.int (1 : Int32)), .val (.int (3 : Int32)), .val (.int (1 : Int32)), .val (.int c1)] [(.ref a2)])) _
  refine Goes.via (fun t k => XS.iloadN X2.here hx rfl (hb hby d5_3_27) rfl k) ?_
  show Goes p e below (T2.setTop (mkF m 28 #[.val (.ref a1), .val (.int (1 : Int32)), .val (.ref a2), .val (.int (1 : Int32)), .val (.int (3 : Int32)), .val (.int (1 : Int32)), .val (.int c1)] [(.int (1 : Int32)), (.ref a2)])) _
  refine Goes.via (fun t k => XS.iload X2.here hx rfl (hb hby d5_3_28) rfl k) ?_
  show Goes p e below (T2.setTop (mkF m 30 #[.val (.ref a1), .val (.int (1 : Int32)), .val (.ref a2), .val (.int (1 : Int32)), .val (.int (3 : Int32)), .val (.int (1 : Int32)), .val (.int c1)] [(.int c1), (.int (1 : Int32)), (.ref a2)])) _
  refine Goes.via (fun t k => XS.i2b X2.here hx rfl (hb hby d5_3_30) rfl k) ?_
  show Goes p e below (T2.setTop (mkF m 31 #[.val (.ref a1), .val (.int (1 : Int32)), .val (.ref a2), .val (.int (1 : Int32)), .val (.int (3 : Int32)), .val (.int (1 : Int32)), .val (.int c1)] [(.int (c1.toInt8.toInt32)), (.int (1 : Int32)), (.ref a2)])) _
  obtain ⟨cl4, Ar4, qa4, Sa4, Na4, Ha4, Ga4⟩ := V2
  have hin4 : ¬ ((1 : Int32) < 0 ∨ cl4.slots.size ≤ ((1 : Int32)).toNatClampNeg) := inb_of Sa4 ⟨by decide, by decide⟩
  obtain ⟨T4, h4, X4, e4, W4, st4⟩ := stB X2 hx hZ e2 Ar4 (j := (1 : Int32)) hin4 (g := (mkF m 31 #[.val (.ref a1), .val (.int (1 : Int32)), .val (.ref a2), .val (.int (1 : Int32)), .val (.int (3 : Int32)), .val (.int (1 : Int32)), .val (.int c1)] [(.int (c1.toInt8.toInt32)), (.int (1 : Int32)), (.ref a2)])) rfl rfl (hb hby d5_3_31)
  have V4 : Arv Z h4 a2 k2 .byte (3 : Int32) [(.int (nar .byte (c0.toInt8.toInt32))), (.int (nar .byte (c1.toInt8.toInt32))), (.int (0 : Int32))] (.int (0 : Int32)) := Arv.set Ar4 qa4 Sa4 Na4 Ha4 Ga4 (fits_nar_byte _) W4 1 rfl (Nat.le_of_ble_eq_true rfl)
  have F4_88 := F2_39.other W4 (Nat.ne_of_lt lt12)
  have K4 : Keep h0 h4 [a2] := K2.wr W4 (Or.inl (List.mem_of_getElem? (i := 0) rfl))
  have Z4 : n0 ≤ h4.size := Nat.le_trans Z2 (Keep.of_wr W4).1
  have N4 := Fr.snoc X4 N2 g2
  refine Goes.via st4 ?_
  show Goes p e below (T4.setTop (mkF m 32 #[.val (.ref a1), .val (.int (1 : Int32)), .val (.ref a2), .val (.int (1 : Int32)), .val (.int (3 : Int32)), .val (.int (1 : Int32)), .val (.int c1)] [])) _
  refine Goes.via (fun t k => XS.iinc X4.here hx rfl (hb hby d5_3_32) rfl (l' := #[.val (.ref a1), .val (.int (2 : Int32)), .val (.ref a2), .val (.int (1 : Int32)), .val (.int (3 : Int32)), .val (.int (1 : Int32)), .val (.int c1)]) rfl k) ?_
  show Goes p e below (T4.setTop (mkF m 35 #[.val (.ref a1), .val (.int (2 : Int32)), .val (.ref a2), .val (.int (1 : Int32)), .val (.int (3 : Int32)), .val (.int (1 : Int32)), .val (.int c1)] [])) _
  refine Goes.via (fun t k => XS.iinc X4.here hx rfl (hb hby d5_3_35) rfl (l' := #[.val (.ref a1), .val (.int (2 : Int32)), .val (.ref a2), .val (.int (2 : Int32)), .val (.int (3 : Int32)), .val (.int (1 : Int32)), .val (.int c1)]) rfl k) ?_
  show Goes p e below (T4.setTop (mkF m 38 #[.val (.ref a1), .val (.int (2 : Int32)), .val (.ref a2), .val (.int (2 : Int32)), .val (.int (3 : Int32)), .val (.int (1 : Int32)), .val (.int c1)] [])) _
  refine Goes.via (fun t k => XS.iinc X4.here hx rfl (hb hby d5_3_38) rfl (l' := #[.val (.ref a1), .val (.int (2 : Int32)), .val (.ref a2), .val (.int (2 : Int32)), .val (.int (3 : Int32)), .val (.int (2 : Int32)), .val (.int c1)]) rfl k) ?_
  show Goes p e below (T4.setTop (mkF m 41 #[.val (.ref a1), .val (.int (2 : Int32)), .val (.ref a2), .val (.int (2 : Int32)), .val (.int (3 : Int32)), .val (.int (2 : Int32)), .val (.int c1)] [])) _
  refine Goes.via (fun t k => XS.goto X4.here hx rfl (pc0 := 41) (pc' := 3) rfl (hb hby d5_3_41) (by decide) (by decide) k) ?_
  show Goes p e below (T4.setTop (mkF m 3 #[.val (.ref a1), .val (.int (2 : Int32)), .val (.ref a2), .val (.int (2 : Int32)), .val (.int (3 : Int32)), .val (.int (2 : Int32)), .val (.int c1)] [])) _
  refine Goes.via (fun t k => XS.iload X4.here hx rfl (hb hby d5_3_3) rfl k) ?_
  show Goes p e below (T4.setTop (mkF m 5 #[.val (.ref a1), .val (.int (2 : Int32)), .val (.ref a2), .val (.int (2 : Int32)), .val (.int (3 : Int32)), .val (.int (2 : Int32)), .val (.int c1)] [(.int (2 : Int32))])) _
  refine Goes.via (fun t k => XS.iload X4.here hx rfl (hb hby d5_3_5) rfl k) ?_
  show Goes p e below (T4.setTop (mkF m 7 #[.val (.ref a1), .val (.int (2 : Int32)), .val (.ref a2), .val (.int (2 : Int32)), .val (.int (3 : Int32)), .val (.int (2 : Int32)), .val (.int c1)] [(.int (3 : Int32)), (.int (2 : Int32))])) _
  refine Goes.via (fun t k => XS.icmpNo X4.here hx rfl (hb hby d5_3_7) rfl (tlt (show (2 : Int32) < (3 : Int32) from (by decide))).2.1 k) ?_
  show Goes p e below (T4.setTop (mkF m 10 #[.val (.ref a1), .val (.int (2 : Int32)), .val (.ref a2), .val (.int (2 : Int32)), .val (.int (3 : Int32)), .val (.int (2 : Int32)), .val (.int c1)] [])) _
  refine Goes.via (fun t k => XS.aloadN X4.here hx rfl (hb hby d5_3_10) rfl rfl k) ?_
  show Goes p e below (T4.setTop (mkF m 11 #[.val (.ref a1), .val (.int (2 : Int32)), .val (.ref a2), .val (.int (2 : Int32)), .val (.int (3 : Int32)), .val (.int (2 : Int32)), .val (.int c1)] [(.ref a1)])) _
  refine Goes.via (fun t k => XS.iloadN X4.here hx rfl (hb hby d5_3_11) rfl k) ?_
  show Goes p e below (T4.setTop (mkF m 12 #[.val (.ref a1), .val (.int (2 : Int32)), .val (.ref a2), .val (.int (2 : Int32)), .val (.int (3 : Int32)), .val (.int (2 : Int32)), .val (.int c1)] [(.int (2 : Int32)), (.ref a1)])) _
  obtain ⟨cl5, Ar5, qa5, Sa5, Na5, Ha5, Ga5⟩ := id F4_88
  have hin5 : ¬ ((2 : Int32) < 0 ∨ cl5.slots.size ≤ ((2 : Int32)).toNatClampNeg) := inb_of Sa5 ⟨by decide, by decide⟩
  have hat5 : cl5.slots[((2 : Int32)).toNatClampNeg]? = some (.int c2) := Ha5.at hin5 rfl
  refine Goes.via (fun t k => X4.caload hx (j := (2 : Int32)) (v := (.int c2)) (by rw [e4]; exact Ar5.1) (State.isArrayOf_alike hZ.alike Ar5.2.1) Ar5.2.2 hin5 hat5 (g := (mkF m 12 #[.val (.ref a1), .val (.int (2 : Int32)), .val (.ref a2), .val (.int (2 : Int32)), .val (.int (3 : Int32)), .val (.int (2 : Int32)), .val (.int c1)] [(.int (2 : Int32)), (.ref a1)])) rfl rfl (hb hby d5_3_12) _ k) ?_
  show Goes p e below (T4.setTop (mkF m 13 #[.val (.ref a1), .val (.int (2 : Int32)), .val (.ref a2), .val (.int (2 : Int32)), .val (.int (3 : Int32)), .val (.int (2 : Int32)), .val (.int c1)] [(.int c2)])) _
  refine Goes.via (fun t k => XS.istore X4.here hx rfl (hb hby d5_3_13) rfl (l' := #[.val (.ref a1), .val (.int (2 : Int32)), .val (.ref a2), .val (.int (2 : Int32)), .val (.int (3 : Int32)), .val (.int (2 : Int32)), .val (.int c2)]) rfl k) ?_
  show Goes p e below (T4.setTop (mkF m 15 #[.val (.ref a1), .val (.int (2 : Int32)), .val (.ref a2), .val (.int (2 : Int32)), .val (.int (3 : Int32)), .val (.int (2 : Int32)), .val (.int c2)] [])) _
  refine Goes.via (fun t k => XS.iload X4.here hx rfl (hb hby d5_3_15) rfl k) ?_
  show Goes p e below (T4.setTop (mkF m 17 #[.val (.ref a1), .val (.int (2 : Int32)), .val (.ref a2), .val (.int (2 : Int32)), .val (.int (3 : Int32)), .val (.int (2 : Int32)), .val (.int c2)] [(.int c2)])) _
  refine Goes.via (fun t k => XS.sipush X4.here hx rfl (hb hby d5_3_17) k) ?_
  show Goes p e below (T4.setTop (mkF m 20 #[.val (.ref a1), .val (.int (2 : Int32)), .val (.ref a2), .val (.int (2 : Int32)), .val (.int (3 : Int32)), .val (.int (2 : Int32)), .val (.int c2)] [(.int (255 : Int32)), (.int c2)])) _
  refine Goes.via (fun t k => XS.icmpYes X4.here hx rfl (pc0 := 20) (pc' := 26) rfl (hb hby d5_3_20) rfl (flt hc2).2.2.2 (by decide) (by decide) k) ?_
  show Goes p e below (T4.setTop (mkF m 26 #[.val (.ref a1), .val (.int (2 : Int32)), .val (.ref a2), .val (.int (2 : Int32)), .val (.int (3 : Int32)), .val (.int (2 : Int32)), .val (.int c2)] [])) _
  refine Goes.via (fun t k => XS.aloadN X4.here hx rfl (hb hby d5_3_26) rfl rfl k) ?_
  show Goes p e below (T4.setTop (mkF m 27 #[.val (.ref a1), .val (.int (2 : Int32)), .val (.ref a2), .val (.int (2 : Int32)), .val (.int (3 : Int32)), .val (.int (2 : Int32)), .val (.int c2)] [(.ref a2)])) _
  refine Goes.via (fun t k => XS.iloadN X4.here hx rfl (hb hby d5_3_27) rfl k) ?_
  show Goes p e below (T4.setTop (mkF m 28 #[.val (.ref a1), .val (.int (2 : Int32)), .val (.ref a2), .val (.int (2 : Int32)), .val (.int (3 : Int32)), .val (.int (2 : Int32)), .val (.int c2)] [(.int (2 : Int32)), (.ref a2)])) _
  refine Goes.via (fun t k => XS.iload X4.here hx rfl (hb hby d5_3_28) rfl k) ?_
  show Goes p e below (T4.setTop (mkF m 30 #[.val (.ref a1), .val (.int (2 : Int32)), .val (.ref a2), .val (.int (2 : Int32)), .val (.int (3 : Int32)), .val (.int (2 : Int32)), .val (.int c2)] [(.int c2), (.int (2 : Int32)), (.ref a2)])) _
  refine Goes.via (fun t k => XS.i2b X4.here hx rfl (hb hby d5_3_30) rfl k) ?_
  show Goes p e below (T4.setTop (mkF m 31 #[.val (.ref a1), .val (.int (2 : Int32)), .val (.ref a2), .val (.int (2 : Int32)), .val (.int (3 : Int32)), .val (.int (2 : Int32)), .val (.int c2)] [(.int (c2.toInt8.toInt32)), (.int (2 : Int32)), (.ref a2)])) _
  obtain ⟨cl6, Ar6, qa6, Sa6, Na6, Ha6, Ga6⟩ := V4
  have hin6 : ¬ ((2 : Int32) < 0 ∨ cl6.slots.size ≤ ((2 : Int32)).toNatClampNeg) := inb_of Sa6 ⟨by decide, by decide⟩
  obtain ⟨T6, h6, X6, e6, W6, st6⟩ := stB X4 hx hZ e4 Ar6 (j := (2 : Int32)) hin6 (g := (mkF m 31 #[.val (.ref a1), .val (.int (2 : Int32)), .val (.ref a2), .val (.int (2 : Int32)), .val (.int (3 : Int32)), .val (.int (2 : Int32)), .val (.int c2)] [(.int (c2.toInt8.toInt32)), (.int (2 : Int32)), (.ref a2)])) rfl rfl (hb hby d5_3_31)
  have V6 : Arv Z h6 a2 k2 .byte (3 : Int32) [(.int (nar .byte (c0.toInt8.toInt32))), (.int (nar .byte (c1.toInt8.toInt32))), (.int (nar .byte (c2.toInt8.toInt32)))] (.int (0 : Int32)) := Arv.set Ar6 qa6 Sa6 Na6 Ha6 Ga6 (fits_nar_byte _) W6 2 rfl (Nat.le_of_ble_eq_true rfl)
  have F6_137 := F4_88.other W6 (Nat.ne_of_lt lt12)
  have K6 : Keep h0 h6 [a2] := K4.wr W6 (Or.inl (List.mem_of_getElem? (i := 0) rfl))
  have Z6 : n0 ≤ h6.size := Nat.le_trans Z4 (Keep.of_wr W6).1
  have N6 := Fr.snoc X6 N4 g2
  refine Goes.via st6 ?_
  show Goes p e below (T6.setTop (mkF m 32 #[.val (.ref a1), .val (.int (2 : Int32)), .val (.ref a2), .val (.int (2 : Int32)), .val (.int (3 : Int32)), .val (.int (2 : Int32)), .val (.int c2)] [])) _
  refine Goes.via (fun t k => XS.iinc X6.here hx rfl (hb hby d5_3_32) rfl (l' := #[.val (.ref a1), .val (.int (3 : Int32)), .val (.ref a2), .val (.int (2 : Int32)), .val (.int (3 : Int32)), .val (.int (2 : Int32)), .val (.int c2)]) rfl k) ?_
  show Goes p e below (T6.setTop (mkF m 35 #[.val (.ref a1), .val (.int (3 : Int32)), .val (.ref a2), .val (.int (2 : Int32)), .val (.int (3 : Int32)), .val (.int (2 : Int32)), .val (.int c2)] [])) _
  refine Goes.via (fun t k => XS.iinc X6.here hx rfl (hb hby d5_3_35) rfl (l' := #[.val (.ref a1), .val (.int (3 : Int32)), .val (.ref a2), .val (.int (3 : Int32)), .val (.int (3 : Int32)), .val (.int (2 : Int32)), .val (.int c2)]) rfl k) ?_
  show Goes p e below (T6.setTop (mkF m 38 #[.val (.ref a1), .val (.int (3 : Int32)), .val (.ref a2), .val (.int (3 : Int32)), .val (.int (3 : Int32)), .val (.int (2 : Int32)), .val (.int c2)] [])) _
  refine Goes.via (fun t k => XS.iinc X6.here hx rfl (hb hby d5_3_38) rfl (l' := #[.val (.ref a1), .val (.int (3 : Int32)), .val (.ref a2), .val (.int (3 : Int32)), .val (.int (3 : Int32)), .val (.int (3 : Int32)), .val (.int c2)]) rfl k) ?_
  show Goes p e below (T6.setTop (mkF m 41 #[.val (.ref a1), .val (.int (3 : Int32)), .val (.ref a2), .val (.int (3 : Int32)), .val (.int (3 : Int32)), .val (.int (3 : Int32)), .val (.int c2)] [])) _
  refine Goes.via (fun t k => XS.goto X6.here hx rfl (pc0 := 41) (pc' := 3) rfl (hb hby d5_3_41) (by decide) (by decide) k) ?_
  show Goes p e below (T6.setTop (mkF m 3 #[.val (.ref a1), .val (.int (3 : Int32)), .val (.ref a2), .val (.int (3 : Int32)), .val (.int (3 : Int32)), .val (.int (3 : Int32)), .val (.int c2)] [])) _
  refine Goes.via (fun t k => XS.iload X6.here hx rfl (hb hby d5_3_3) rfl k) ?_
  show Goes p e below (T6.setTop (mkF m 5 #[.val (.ref a1), .val (.int (3 : Int32)), .val (.ref a2), .val (.int (3 : Int32)), .val (.int (3 : Int32)), .val (.int (3 : Int32)), .val (.int c2)] [(.int (3 : Int32))])) _
  refine Goes.via (fun t k => XS.iload X6.here hx rfl (hb hby d5_3_5) rfl k) ?_
  show Goes p e below (T6.setTop (mkF m 7 #[.val (.ref a1), .val (.int (3 : Int32)), .val (.ref a2), .val (.int (3 : Int32)), .val (.int (3 : Int32)), .val (.int (3 : Int32)), .val (.int c2)] [(.int (3 : Int32)), (.int (3 : Int32))])) _
  refine Goes.via (fun t k => XS.icmpYes X6.here hx rfl (pc0 := 7) (pc' := 44) rfl (hb hby d5_3_7) rfl (flt (show ¬ ((3 : Int32) < (3 : Int32)) from (by decide))).2.1 (by decide) (by decide) k) ?_
  show Goes p e below (T6.setTop (mkF m 44 #[.val (.ref a1), .val (.int (3 : Int32)), .val (.ref a2), .val (.int (3 : Int32)), .val (.int (3 : Int32)), .val (.int (3 : Int32)), .val (.int c2)] [])) _
  refine Goes.via (fun t k => XS.iload X6.here hx rfl (hb hby d5_3_44) rfl k) ?_
  show Goes p e below (T6.setTop (mkF m 46 #[.val (.ref a1), .val (.int (3 : Int32)), .val (.ref a2), .val (.int (3 : Int32)), .val (.int (3 : Int32)), .val (.int (3 : Int32)), .val (.int c2)] [(.int (3 : Int32))])) _
  obtain ⟨fs, hr, hrun, hended, hW, hsame⟩ := X6.leave (v := some (.int (3 : Int32))) (fun h => by rw [Bd.returns] at h; cases h)
  refine ⟨_, _, ?_, hrun, hended, _, _, rfl, ?_, ⟨_, rfl⟩, hW, hsame.mono (by decide) (by decide)⟩
  · exact retI X6 hx Bd.returns (hb hby d5_3_46) hr
  · show Q5_3 Z a2 k2 c0 c1 c2 h0 n0 _ T6.heap _
    rw [e6]
    exact ⟨rfl, N6, K6, V6⟩
theorem d4_3_0 : decode jdk_52_method_16_code 0 = .ok (.iload_n 2, 1) := by decide +kernel
theorem d4_3_1 : decode jdk_52_method_16_code 1 = .ok (.newarray .byte, 2) := by decide +kernel
theorem d4_3_3 : decode jdk_52_method_16_code 3 = .ok (.astore_n 3, 1) := by decide +kernel
theorem d4_3_4 : decode jdk_52_method_16_code 4 = .ok (.aload_n 0, 1) := by decide +kernel
theorem d4_3_5 : decode jdk_52_method_16_code 5 = .ok (.iload_n 1, 1) := by decide +kernel
theorem d4_3_6 : decode jdk_52_method_16_code 6 = .ok (.aload_n 3, 1) := by decide +kernel
theorem d4_3_7 : decode jdk_52_method_16_code 7 = .ok (.iconst 0, 1) := by decide +kernel
theorem d4_3_8 : decode jdk_52_method_16_code 8 = .ok (.iload_n 2, 1) := by decide +kernel
theorem d4_3_9 : decode jdk_52_method_16_code 9 = .ok (.invokestatic 115, 3) := by decide +kernel
theorem d4_3_12 : decode jdk_52_method_16_code 12 = .ok (.istore 4, 2) := by decide +kernel
theorem d4_3_14 : decode jdk_52_method_16_code 14 = .ok (.iload 4, 2) := by decide +kernel
theorem d4_3_16 : decode jdk_52_method_16_code 16 = .ok (.iload_n 2, 1) := by decide +kernel
theorem d4_3_17 : decode jdk_52_method_16_code 17 = .ok (.if_icmp .eq 40, 3) := by decide +kernel
theorem d4_3_57 : decode jdk_52_method_16_code 57 = .ok (.aload_n 3, 1) := by decide +kernel
theorem d4_3_58 : decode jdk_52_method_16_code 58 = .ok (.areturn, 1) := by decide +kernel
theorem pn_4_3 : plainName "java/lang/StringUTF16" = true := by first | (simp [plainName, overriddenIn]; done) | decide +kernel
theorem pd_4_3_0 : parseMethodDescriptor "([CI[BII)I" = some ⟨[(.array .char), .int, (.array .byte), .int, .int], some .int⟩ := by decide +kernel
theorem ef_4_3 (m : MethodId) (x0 : Addr) : entryFrame m #[(.ref x0), (.int (0 : Int32)), (.int (3 : Int32))] 6 = mkF m 0 #[.val (.ref x0), .val (.int (0 : Int32)), .val (.int (3 : Int32)), .unset, .unset, .unset] [] := by first | (simp [entryFrame, mkF, argsToLocals, Value.category]; done) | rfl
def Q4_3 (Z : State) (c0 c1 c2 : Int32) (h0 : Heap) (n0 : Nat) (v : Option Value) (h : Heap) (L : List Loc) : Prop := ∃ (t : Addr) (k : ClassId), v = some (.ref t) ∧ Fr n0 L ∧ n0 ≤ t ∧ h0.size ≤ t ∧ Keep h0 h [] ∧ Arv Z h t k .byte (3 : Int32) [(.int (nar .byte (c0.toInt8.toInt32))), (.int (nar .byte (c1.toInt8.toInt32))), (.int (nar .byte (c2.toInt8.toInt32)))] (.int (0 : Int32))
set_option maxRecDepth 65536 in
set_option maxHeartbeats 40000000 in
theorem rm4_3 (l : Launch) (Z : State) (a0 : Array Value) (hw : ∀ d ∈ tables_1, d.before a0 Z = true) (ws : List Jvm.Cond) (a1 : Addr) (k1 : ClassId) (c0 c1 c2 : Int32) (h0 : Heap) (n0 : Nat) (Z0 : n0 ≤ h0.size) (V1 : Arv Z h0 a1 k1 .char (3 : Int32) [(.int c0), (.int c1), (.int c2)] (.int (0 : Int32))) (hc0 : ¬ ((255 : Int32) < c0)) (hc1 : ¬ ((255 : Int32) < c1)) (hc2 : ¬ ((255 : Int32) < c2)) :
    MetFree l (⟨"java/lang/StringUTF16", "compress", "([CII)[B"⟩ : MethodName) (head1 (Jvm.Cond.code (⟨"java/lang/StringUTF16", "compress", "([CII)[B"⟩ : MethodName) jdk_52_method_16_code 6 (some (.array .byte)) :: ws) ({ frames := 1, cells := 1, slots := 3, locals := 18 } : Room)) (fun a U => a = #[(.ref a1), (.int (0 : Int32)), (.int (3 : Int32))] ∧ Z.Warmed39 U.vm ∧ U.heap = h0) (fun _ _ _ _ _ => True) (fun _ U o U' => ∃ v L, o = .returned v ∧ Q4_3 Z c0 c1 c2 h0 n0 v U'.heap L ∧ FrameEnd U o U' L ({ frames := 1, cells := 1, slots := 3, locals := 18 } : Room).cells ({ frames := 1, cells := 1, slots := 3, locals := 18 } : Room).slots) := by
  refine MetFree.of_bodySF (plainFor_of_name pn_4_3) hisR ?_
  intro p e s m args below meth c s₁ Bd hml0 hP hK
  obtain ⟨rfl, hZ, hh⟩ := hP
  have hx := Bd.exec
  have hby := Bd.bytes
  have hml : c.maxLocals = 6 := hml0
  have hown : s.vm.findClass "java/lang/StringUTF16" = some m.cls := findClass_of_methodNamed Bd.named
  have hnm := (name_of_methodNamed Bd.named Bd.method).1
  have X0 : Stand p l e ({ frames := 1, cells := 1, slots := 3, locals := 18 } : Room) s m #[(.ref a1), (.int (0 : Int32)), (.int (3 : Int32))] below meth c s₁ [] 0 0 := Stand.of_body Bd
  have e0 : s₁.heap = h0 := by rw [← hh, Bd.state]; rfl
  have N0 := Fr.nil n0
  refine Goes.via (next := s₁.setTop (mkF m 0 #[.val (.ref a1), .val (.int (0 : Int32)), .val (.int (3 : Int32)), .unset, .unset, .unset] [])) (fun t k => castTop (ef_4_3 m a1) k) ?_
  refine Goes.via (fun t k => XS.iloadN X0.here hx rfl (hb hby d4_3_0) rfl k) ?_
  show Goes p e below (s₁.setTop (mkF m 1 #[.val (.ref a1), .val (.int (0 : Int32)), .val (.int (3 : Int32)), .unset, .unset, .unset] [(.int (3 : Int32))])) _
  obtain ⟨T1, h1, ka1, X1, e1, E1, A1, st1⟩ := newP X0 hx hZ (hw _ (List.mem_of_getElem? (i := 19) rfl)) e0 (g := (mkF m 1 #[.val (.ref a1), .val (.int (0 : Int32)), .val (.int (3 : Int32)), .unset, .unset, .unset] [(.int (3 : Int32))])) rfl (hb hby d4_3_1) rfl (by decide) (cap := 3) (by decide) (by decide) (by decide) (by decide)
  obtain ⟨b1, g1⟩ : ∃ z, z = h0.size := ⟨_, rfl⟩
  rw [← g1] at A1 st1
  have lt_a1_b1 : a1 < b1 := Nat.lt_of_lt_of_le V1.lt (Nat.le_of_eq g1.symm)
  have ge_b1 : n0 ≤ b1 := Nat.le_trans Z0 (Nat.le_of_eq g1.symm)
  have sz_b1 : h0.size ≤ b1 := Nat.le_trans (Keep.refl h0 []).1 (Nat.le_of_eq g1.symm)
  have F1_8 := V1.ext E1
  have K1 : Keep h0 h1 [] := (Keep.refl h0 []).ext E1
  have Z1 : n0 ≤ h1.size := Nat.le_trans Z0 E1.1
  have V1 : Arv Z h1 b1 ka1 .byte (3 : Int32) [(.int (0 : Int32)), (.int (0 : Int32)), (.int (0 : Int32))] (.int (0 : Int32)) := (Arv.new A1 (by decide)).pad (pad_rep [] (.int (0 : Int32)) 3)
  refine Goes.via st1 ?_
  show Goes p e below (T1.setTop (mkF m 3 #[.val (.ref a1), .val (.int (0 : Int32)), .val (.int (3 : Int32)), .unset, .unset, .unset] [(.ref b1)])) _
  refine Goes.via (fun t k => XS.astoreN X1.here hx rfl (hb hby d4_3_3) rfl rfl (l' := #[.val (.ref a1), .val (.int (0 : Int32)), .val (.int (3 : Int32)), .val (.ref b1), .unset, .unset]) rfl k) ?_
  show Goes p e below (T1.setTop (mkF m 4 #[.val (.ref a1), .val (.int (0 : Int32)), .val (.int (3 : Int32)), .val (.ref b1), .unset, .unset] [])) _
  refine Goes.via (fun t k => XS.aloadN X1.here hx rfl (hb hby d4_3_4) rfl rfl k) ?_
  show Goes p e below (T1.setTop (mkF m 5 #[.val (.ref a1), .val (.int (0 : Int32)), .val (.int (3 : Int32)), .val (.ref b1), .unset, .unset] [(.ref a1)])) _
  refine Goes.via (fun t k => XS.iloadN X1.here hx rfl (hb hby d4_3_5) rfl k) ?_
  show Goes p e below (T1.setTop (mkF m 6 #[.val (.ref a1), .val (.int (0 : Int32)), .val (.int (3 : Int32)), .val (.ref b1), .unset, .unset] [(.int (0 : Int32)), (.ref a1)])) _
  refine Goes.via (fun t k => XS.aloadN X1.here hx rfl (hb hby d4_3_6) rfl rfl k) ?_
  show Goes p e below (T1.setTop (mkF m 7 #[.val (.ref a1), .val (.int (0 : Int32)), .val (.int (3 : Int32)), .val (.ref b1), .unset, .unset] [(.ref b1), (.int (0 : Int32)), (.ref a1)])) _
  refine Goes.via (fun t k => XS.iconst X1.here hx rfl (hb hby d4_3_7) k) ?_
  show Goes p e below (T1.setTop (mkF m 8 #[.val (.ref a1), .val (.int (0 : Int32)), .val (.int (3 : Int32)), .val (.ref b1), .unset, .unset] [(.int (0 : Int32)), (.ref b1), (.int (0 : Int32)), (.ref a1)])) _
  refine Goes.via (fun t k => XS.iloadN X1.here hx rfl (hb hby d4_3_8) rfl k) ?_
  show Goes p e below (T1.setTop (mkF m 9 #[.val (.ref a1), .val (.int (0 : Int32)), .val (.int (3 : Int32)), .val (.ref b1), .unset, .unset] [(.int (3 : Int32)), (.int (0 : Int32)), (.ref b1), (.int (0 : Int32)), (.ref a1)])) _
  obtain ⟨_, _, ⟨T2, L2, k2, n2⟩, -, X2, ⟨Lc2, hQ2, l2, y2, z2⟩, st2⟩ := Jvm.LawKit.callS X1 hx (y := (⟨"java/lang/StringUTF16", "compress", "([CI[BII)I"⟩ : MethodName)) hown (mvT hZ (hw _ (List.mem_of_getElem? (i := 20) rfl))) (mvT hZ (hw _ (List.mem_of_getElem? (i := 21) rfl))) (mvT hZ (hw _ (List.mem_of_getElem? (i := 17) rfl))) (mvT hZ (hw _ (List.mem_of_getElem? (i := 22) rfl))) (by decide) (backOf (W := 0) (rm5_3 l Z a0 hw [] a1 b1 k1 ka1 c0 c1 c2 h1 n0 Z1 F1_8 V1 ge_b1 lt_a1_b1 hc0 hc1 hc2) hZ (hw _ (List.mem_of_getElem? (i := 22) rfl)) (hw _ (List.mem_of_getElem? (i := 17) rfl)) (by decide) (by decide)) (g := (mkF m 9 #[.val (.ref a1), .val (.int (0 : Int32)), .val (.int (3 : Int32)), .val (.ref b1), .unset, .unset] [(.int (3 : Int32)), (.int (0 : Int32)), (.ref b1), (.int (0 : Int32)), (.ref a1)])) rfl (by rw [hml]; rfl) (argsL := [(.ref a1), (.int (0 : Int32)), (.ref b1), (.int (0 : Int32)), (.int (3 : Int32))]) (rest := []) (lenOf pd_4_3_0 rfl) rfl (by show 2 * 0 + _ ≤ _; exact Nat.le_of_eq rfl) (hb hby d4_3_9) (fun _ _ => ⟨rfl, e1, (by decide : 1 + 0 ≤ _), (by decide : 3 + 0 ≤ _)⟩)
  dsimp only [Pt.U, Pt.locs, Pt.cells, Pt.slots] at X2 l2 y2 z2 st2 hQ2
  subst l2 y2 z2
  obtain ⟨rfl, N2q, Kc2, Vc2⟩ := hQ2
  have F2_30 := F1_8.keep Kc2 (fun q => (Nat.ne_of_lt lt_a1_b1) (List.mem_singleton.mp q))
  have K2 : Keep h0 T2.heap [] := K1.trans Kc2 (fun x hx => by cases List.mem_singleton.mp hx; exact Or.inr sz_b1)
  have Z2 : n0 ≤ T2.heap.size := Nat.le_trans Z1 Kc2.1
  have N2 := Fr.app N0 N2q
  refine Goes.via st2 ?_
  show Goes p e below (T2.setTop (mkF m 12 #[.val (.ref a1), .val (.int (0 : Int32)), .val (.int (3 : Int32)), .val (.ref b1), .unset, .unset] [(.int (3 : Int32))])) _
  refine Goes.via (fun t k => XS.istore X2.here hx rfl (hb hby d4_3_12) rfl (l' := #[.val (.ref a1), .val (.int (0 : Int32)), .val (.int (3 : Int32)), .val (.ref b1), .val (.int (3 : Int32)), .unset]) rfl k) ?_
  show Goes p e below (T2.setTop (mkF m 14 #[.val (.ref a1), .val (.int (0 : Int32)), .val (.int (3 : Int32)), .val (.ref b1), .val (.int (3 : Int32)), .unset] [])) _
  refine Goes.via (fun t k => XS.iload X2.here hx rfl (hb hby d4_3_14) rfl k) ?_
  show Goes p e below (T2.setTop (mkF m 16 #[.val (.ref a1), .val (.int (0 : Int32)), .val (.int (3 : Int32)), .val (.ref b1), .val (.int (3 : Int32)), .unset] [(.int (3 : Int32))])) _
  refine Goes.via (fun t k => XS.iloadN X2.here hx rfl (hb hby d4_3_16) rfl k) ?_
  show Goes p e below (T2.setTop (mkF m 17 #[.val (.ref a1), .val (.int (0 : Int32)), .val (.int (3 : Int32)), .val (.ref b1), .val (.int (3 : Int32)), .unset] [(.int (3 : Int32)), (.int (3 : Int32))])) _
  refine Goes.via (fun t k => XS.icmpYes X2.here hx rfl (pc0 := 17) (pc' := 57) rfl (hb hby d4_3_17) rfl (teq (show (3 : Int32) = (3 : Int32) from rfl)).1 (by decide) (by decide) k) ?_
  show Goes p e below (T2.setTop (mkF m 57 #[.val (.ref a1), .val (.int (0 : Int32)), .val (.int (3 : Int32)), .val (.ref b1), .val (.int (3 : Int32)), .unset] [])) _
  refine Goes.via (fun t k => XS.aloadN X2.here hx rfl (hb hby d4_3_57) rfl rfl k) ?_
  show Goes p e below (T2.setTop (mkF m 58 #[.val (.ref a1), .val (.int (0 : Int32)), .val (.int (3 : Int32)), .val (.ref b1), .val (.int (3 : Int32)), .unset] [(.ref b1)])) _
  obtain ⟨fs, hr, hrun, hended, hW, hsame⟩ := X2.leave (v := some (.ref b1)) (fun h => by rw [Bd.returns] at h; cases h)
  refine ⟨_, _, ?_, hrun, hended, _, _, rfl, ?_, ⟨_, rfl⟩, hW, hsame.mono (by decide) (by decide)⟩
  · exact retOut X2 hx (t := (.array .byte)) Bd.returns rfl (Or.inr (Or.inr (Or.inr (Or.inr ⟨rfl, rfl, rfl⟩)))) (hb hby d4_3_58) hr
  · exact ⟨b1, _, rfl, N2, ge_b1, sz_b1, K2, Vc2⟩
theorem d6_3_0 : decode jdk_52_method_15_code 0 = .ok (.iload_n 1, 1) := by decide +kernel
theorem d6_3_1 : decode jdk_52_method_15_code 1 = .ok (.aload_n 0, 1) := by decide +kernel
theorem d6_3_2 : decode jdk_52_method_15_code 2 = .ok (.arraylength, 1) := by decide +kernel
theorem d6_3_3 : decode jdk_52_method_15_code 3 = .ok (.isub, 1) := by decide +kernel
theorem d6_3_4 : decode jdk_52_method_15_code 4 = .ok (.bipush 31, 2) := by decide +kernel
theorem d6_3_6 : decode jdk_52_method_15_code 6 = .ok (.iushr, 1) := by decide +kernel
theorem d6_3_7 : decode jdk_52_method_15_code 7 = .ok (.i2b, 1) := by decide +kernel
theorem d6_3_8 : decode jdk_52_method_15_code 8 = .ok (.ireturn, 1) := by decide +kernel
theorem pn_6_3 : plainName "java/lang/StringUTF16" = true := by first | (simp [plainName, overriddenIn]; done) | decide +kernel
theorem ef_6_3 (m : MethodId) (x0 : Addr) : entryFrame m #[(.ref x0), (.int (3 : Int32))] 2 = mkF m 0 #[.val (.ref x0), .val (.int (3 : Int32))] [] := by first | (simp [entryFrame, mkF, argsToLocals, Value.category]; done) | rfl
def Q6_3 (Z : State) (h0 : Heap) (n0 : Nat) (v : Option Value) (h : Heap) (L : List Loc) : Prop := v = some (.int (0 : Int32)) ∧ Fr n0 L ∧ h = h0
set_option maxRecDepth 65536 in
set_option maxHeartbeats 40000000 in
theorem rm6_3 (l : Launch) (Z : State) (a0 : Array Value) (hw : ∀ d ∈ tables_1, d.before a0 Z = true) (ws : List Jvm.Cond) (a1 : Addr) (k1 : ClassId) (vs : List Value) (h0 : Heap) (n0 : Nat) (Z0 : n0 ≤ h0.size) (V1 : Arv Z h0 a1 k1 .byte (3 : Int32) vs (.int (0 : Int32))) :
    MetFree l (⟨"java/lang/StringUTF16", "coderFromArrayLen", "([BI)B"⟩ : MethodName) (head1 (Jvm.Cond.code (⟨"java/lang/StringUTF16", "coderFromArrayLen", "([BI)B"⟩ : MethodName) jdk_52_method_15_code 2 (some .byte) :: ws) ({ frames := 0, cells := 0, slots := 0, locals := 0 } : Room)) (fun a U => a = #[(.ref a1), (.int (3 : Int32))] ∧ Z.Warmed39 U.vm ∧ U.heap = h0) (fun _ _ _ _ _ => True) (fun _ U o U' => ∃ v L, o = .returned v ∧ Q6_3 Z  h0 n0 v U'.heap L ∧ FrameEnd U o U' L ({ frames := 0, cells := 0, slots := 0, locals := 0 } : Room).cells ({ frames := 0, cells := 0, slots := 0, locals := 0 } : Room).slots) := by
  refine MetFree.of_bodySF (plainFor_of_name pn_6_3) hisR ?_
  intro p e s m args below meth c s₁ Bd hml0 hP hK
  obtain ⟨rfl, hZ, hh⟩ := hP
  have hx := Bd.exec
  have hby := Bd.bytes
  have hml : c.maxLocals = 2 := hml0
  have hown : s.vm.findClass "java/lang/StringUTF16" = some m.cls := findClass_of_methodNamed Bd.named
  have hnm := (name_of_methodNamed Bd.named Bd.method).1
  have X0 : Stand p l e ({ frames := 0, cells := 0, slots := 0, locals := 0 } : Room) s m #[(.ref a1), (.int (3 : Int32))] below meth c s₁ [] 0 0 := Stand.of_body Bd
  have e0 : s₁.heap = h0 := by rw [← hh, Bd.state]; rfl
  have N0 := Fr.nil n0
  refine Goes.via (next := s₁.setTop (mkF m 0 #[.val (.ref a1), .val (.int (3 : Int32))] [])) (fun t k => castTop (ef_6_3 m a1) k) ?_
  refine Goes.via (fun t k => XS.iloadN X0.here hx rfl (hb hby d6_3_0) rfl k) ?_
  show Goes p e below (s₁.setTop (mkF m 1 #[.val (.ref a1), .val (.int (3 : Int32))] [(.int (3 : Int32))])) _
  refine Goes.via (fun t k => XS.aloadN X0.here hx rfl (hb hby d6_3_1) rfl rfl k) ?_
  show Goes p e below (s₁.setTop (mkF m 2 #[.val (.ref a1), .val (.int (3 : Int32))] [(.ref a1), (.int (3 : Int32))])) _
  obtain ⟨cl1, Ar1, -, Sa1, Na1, -, -⟩ := id V1
  refine Goes.via (next := s₁.setTop (mkF m 3 #[.val (.ref a1), .val (.int (3 : Int32))] [(.int (3 : Int32)), (.int (3 : Int32))])) (fun t k => X0.arraylength hx (by rw [e0]; exact Ar1.1) (State.isArrayOf_alike hZ.alike Ar1.2.1) (g := (mkF m 2 #[.val (.ref a1), .val (.int (3 : Int32))] [(.ref a1), (.int (3 : Int32))])) rfl rfl (hb hby d6_3_2) _ (by rw [len_of Sa1 Na1]; exact k)) ?_
  show Goes p e below (s₁.setTop (mkF m 3 #[.val (.ref a1), .val (.int (3 : Int32))] [(.int (3 : Int32)), (.int (3 : Int32))])) _
  refine Goes.via (fun t k => XS.isub X0.here hx rfl (hb hby d6_3_3) rfl k) ?_
  show Goes p e below (s₁.setTop (mkF m 4 #[.val (.ref a1), .val (.int (3 : Int32))] [(.int (0 : Int32))])) _
  refine Goes.via (fun t k => XS.bipush X0.here hx rfl (hb hby d6_3_4) k) ?_
  show Goes p e below (s₁.setTop (mkF m 6 #[.val (.ref a1), .val (.int (3 : Int32))] [(.int (31 : Int32)), (.int (0 : Int32))])) _
  refine Goes.via (fun t k => XS.iushr X0.here hx rfl (hb hby d6_3_6) rfl k) ?_
  show Goes p e below (s₁.setTop (mkF m 7 #[.val (.ref a1), .val (.int (3 : Int32))] [(.int (0 : Int32))])) _
  refine Goes.via (fun t k => XS.i2b X0.here hx rfl (hb hby d6_3_7) rfl k) ?_
  show Goes p e below (s₁.setTop (mkF m 8 #[.val (.ref a1), .val (.int (3 : Int32))] [(.int (0 : Int32))])) _
  obtain ⟨fs, hr, hrun, hended, hW, hsame⟩ := X0.leave (v := some (.int (0 : Int32))) (fun h => by rw [Bd.returns] at h; cases h)
  refine ⟨_, _, ?_, hrun, hended, _, _, rfl, ?_, ⟨_, rfl⟩, hW, hsame.mono (by decide) (by decide)⟩
  · exact retN X0 hx (t := .byte) Bd.returns (by simp) (hb hby d6_3_8) hr
  · show Q6_3 Z  h0 n0 _ s₁.heap _
    rw [e0]
    exact ⟨rfl, N0, rfl⟩
theorem d2_3_0 : decode jdk_42_method_149_code 0 = .ok (.aload_n 0, 1) := by decide +kernel
theorem d2_3_1 : decode jdk_42_method_149_code 1 = .ok (.invokespecial 1, 3) := by decide +kernel
theorem d2_3_4 : decode jdk_42_method_149_code 4 = .ok (.iload_n 3, 1) := by decide +kernel
theorem d2_3_5 : decode jdk_42_method_149_code 5 = .ok (.ifCond .ne 22, 3) := by decide +kernel
theorem d2_3_27 : decode jdk_42_method_149_code 27 = .ok (.getstatic 38, 3) := by decide +kernel
theorem d2_3_30 : decode jdk_42_method_149_code 30 = .ok (.ifCond .eq 28, 3) := by decide +kernel
theorem d2_3_33 : decode jdk_42_method_149_code 33 = .ok (.aload_n 1, 1) := by decide +kernel
theorem d2_3_34 : decode jdk_42_method_149_code 34 = .ok (.iload_n 2, 1) := by decide +kernel
theorem d2_3_35 : decode jdk_42_method_149_code 35 = .ok (.iload_n 3, 1) := by decide +kernel
theorem d2_3_36 : decode jdk_42_method_149_code 36 = .ok (.invokestatic 177, 3) := by decide +kernel
theorem d2_3_39 : decode jdk_42_method_149_code 39 = .ok (.astore 5, 2) := by decide +kernel
theorem d2_3_41 : decode jdk_42_method_149_code 41 = .ok (.aload_n 0, 1) := by decide +kernel
theorem d2_3_42 : decode jdk_42_method_149_code 42 = .ok (.aload 5, 2) := by decide +kernel
theorem d2_3_44 : decode jdk_42_method_149_code 44 = .ok (.iload_n 3, 1) := by decide +kernel
theorem d2_3_45 : decode jdk_42_method_149_code 45 = .ok (.invokestatic 47, 3) := by decide +kernel
theorem d2_3_48 : decode jdk_42_method_149_code 48 = .ok (.putfield 15, 3) := by decide +kernel
theorem d2_3_51 : decode jdk_42_method_149_code 51 = .ok (.aload_n 0, 1) := by decide +kernel
theorem d2_3_52 : decode jdk_42_method_149_code 52 = .ok (.aload 5, 2) := by decide +kernel
theorem d2_3_54 : decode jdk_42_method_149_code 54 = .ok (.putfield 9, 3) := by decide +kernel
theorem d2_3_57 : decode jdk_42_method_149_code 57 = .ok (.return_, 1) := by decide +kernel
theorem pn_2_3 : plainName "java/lang/String" = true := by first | (simp [plainName, overriddenIn]; done) | decide +kernel
theorem pd_2_3_0 : parseMethodDescriptor "([CII)[B" = some ⟨[(.array .char), .int, .int], some (.array .byte)⟩ := by decide +kernel
theorem pd_2_3_1 : parseMethodDescriptor "([BI)B" = some ⟨[(.array .byte), .int], some .byte⟩ := by decide +kernel
theorem ef_2_3 (m : MethodId) (x0 : Addr) (x1 : Addr) : entryFrame m #[(.ref x0), (.ref x1), (.int (0 : Int32)), (.int (3 : Int32)), .null] 6 = mkF m 0 #[.val (.ref x0), .val (.ref x1), .val (.int (0 : Int32)), .val (.int (3 : Int32)), .val .null, .unset] [] := by first | (simp [entryFrame, mkF, argsToLocals, Value.category]; done) | rfl
def Q2_3 (Z : State) (a1 : Addr) (c0 c1 c2 : Int32) (h0 : Heap) (n0 : Nat) (v : Option Value) (h : Heap) (L : List Loc) : Prop := v = none ∧ Fr n0 L ∧ Keep h0 h [a1] ∧ Exa Z h a1 "java/lang/String" ∧ Fld Z h a1 "java/lang/String" "coder" "B" (.int (0 : Int32)) ∧ ∃ (t : Addr) (k : ClassId), n0 ≤ t ∧ h0.size ≤ t ∧ Fld Z h a1 "java/lang/String" "value" "[B" (.ref t) ∧ Arv Z h t k .byte (3 : Int32) [(.int (nar .byte (c0.toInt8.toInt32))), (.int (nar .byte (c1.toInt8.toInt32))), (.int (nar .byte (c2.toInt8.toInt32)))] (.int (0 : Int32))
set_option maxRecDepth 65536 in
set_option maxHeartbeats 40000000 in
theorem rm2_3 (l : Launch) (Z : State) (a0 : Array Value) (hw : ∀ d ∈ tables_1, d.before a0 Z = true) (ws : List Jvm.Cond) (a1 : Addr) (a2 : Addr) (k2 : ClassId) (c0 c1 c2 : Int32) (w0 : Int32) (h0 : Heap) (n0 : Nat) (Z0 : n0 ≤ h0.size) (E1 : Exa Z h0 a1 "java/lang/String") (Fv : Fld Z h0 a1 "java/lang/String" "value" "[B" .null) (Fc : Fld Z h0 a1 "java/lang/String" "coder" "B" (.int (0 : Int32))) (V2 : Arv Z h0 a2 k2 .char (3 : Int32) [(.int c0), (.int c1), (.int c2)] (.int (0 : Int32))) (g1 : n0 ≤ a1) (ne12 : a1 ≠ a2) (O0 : Old Z n0 h0) (St : own_St Z w0) (hc0 : ¬ ((255 : Int32) < c0)) (hc1 : ¬ ((255 : Int32) < c1)) (hc2 : ¬ ((255 : Int32) < c2)) :
    MetFree l (⟨"java/lang/String", "<init>", "([CIILjava/lang/Void;)V"⟩ : MethodName) (head1 (Jvm.Cond.code (⟨"java/lang/String", "<init>", "([CIILjava/lang/Void;)V"⟩ : MethodName) jdk_42_method_149_code 6 none :: ws) ({ frames := 2, cells := 1, slots := 3, locals := 35 } : Room)) (fun a U => a = #[(.ref a1), (.ref a2), (.int (0 : Int32)), (.int (3 : Int32)), .null] ∧ Z.Warmed39 U.vm ∧ U.heap = h0) (fun _ _ _ _ _ => True) (fun _ U o U' => ∃ v L, o = .returned v ∧ Q2_3 Z a1 c0 c1 c2 h0 n0 v U'.heap L ∧ FrameEnd U o U' L ({ frames := 2, cells := 1, slots := 3, locals := 35 } : Room).cells ({ frames := 2, cells := 1, slots := 3, locals := 35 } : Room).slots) := by
  refine MetFree.of_bodySF (plainFor_of_name pn_2_3) hisR ?_
  intro p e s m args below meth c s₁ Bd hml0 hP hK
  obtain ⟨rfl, hZ, hh⟩ := hP
  have hx := Bd.exec
  have hby := Bd.bytes
  have hml : c.maxLocals = 6 := hml0
  have hown : s.vm.findClass "java/lang/String" = some m.cls := findClass_of_methodNamed Bd.named
  have hnm := (name_of_methodNamed Bd.named Bd.method).1
  have X0 : Stand p l e ({ frames := 2, cells := 1, slots := 3, locals := 35 } : Room) s m #[(.ref a1), (.ref a2), (.int (0 : Int32)), (.int (3 : Int32)), .null] below meth c s₁ [] 0 0 := Stand.of_body Bd
  have e0 : s₁.heap = h0 := by rw [← hh, Bd.state]; rfl
  have N0 := Fr.nil n0
  refine Goes.via (next := s₁.setTop (mkF m 0 #[.val (.ref a1), .val (.ref a2), .val (.int (0 : Int32)), .val (.int (3 : Int32)), .val .null, .unset] [])) (fun t k => castTop (ef_2_3 m a1 a2) k) ?_
  refine Goes.via (fun t k => XS.aloadN X0.here hx rfl (hb hby d2_3_0) rfl rfl k) ?_
  show Goes p e below (s₁.setTop (mkF m 1 #[.val (.ref a1), .val (.ref a2), .val (.int (0 : Int32)), .val (.int (3 : Int32)), .val .null, .unset] [(.ref a1)])) _
  obtain ⟨T1, X1, e1, st1⟩ := initO X0 hx hZ hown (hw _ (List.mem_of_getElem? (i := 11) rfl)) (hw _ (List.mem_of_getElem? (i := 12) rfl)) (hw _ (List.mem_of_getElem? (i := 13) rfl)) e0 (g := (mkF m 1 #[.val (.ref a1), .val (.ref a2), .val (.int (0 : Int32)), .val (.int (3 : Int32)), .val .null, .unset] [(.ref a1)])) rfl (by rw [hml]; rfl) rfl (hb hby d2_3_1) (by decide) (W := 0) (by show 2 * 0 + _ ≤ _; exact Nat.le_of_eq rfl) (by decide)
  refine Goes.via st1 ?_
  show Goes p e below (T1.setTop (mkF m 4 #[.val (.ref a1), .val (.ref a2), .val (.int (0 : Int32)), .val (.int (3 : Int32)), .val .null, .unset] [])) _
  refine Goes.via (fun t k => XS.iloadN X1.here hx rfl (hb hby d2_3_4) rfl k) ?_
  show Goes p e below (T1.setTop (mkF m 5 #[.val (.ref a1), .val (.ref a2), .val (.int (0 : Int32)), .val (.int (3 : Int32)), .val .null, .unset] [(.int (3 : Int32))])) _
  refine Goes.via (fun t k => XS.ifYes X1.here hx rfl (pc0 := 5) (pc' := 27) rfl (hb hby d2_3_5) rfl ((if0 _ _).trans (feq (show ¬ ((3 : Int32) = (0 : Int32)) from (by decide))).2) (by decide) (by decide) k) ?_
  show Goes p e below (T1.setTop (mkF m 27 #[.val (.ref a1), .val (.ref a2), .val (.int (0 : Int32)), .val (.int (3 : Int32)), .val .null, .unset] [])) _
  obtain ⟨T2, X2, e2, st2⟩ := getS2 X1 hx hZ hown (host := "") (Or.inl (hw _ (List.mem_of_getElem? (i := 14) rfl))) Via.refl e1 (St.1.ext O0.2) (g := (mkF m 27 #[.val (.ref a1), .val (.ref a2), .val (.int (0 : Int32)), .val (.int (3 : Int32)), .val .null, .unset] [])) rfl (hb hby d2_3_27)
  refine Goes.via st2 ?_
  show Goes p e below (T2.setTop (mkF m 30 #[.val (.ref a1), .val (.ref a2), .val (.int (0 : Int32)), .val (.int (3 : Int32)), .val .null, .unset] [(.int w0)])) _
  have hc30_3 : ¬ (w0 = (0 : Int32)) := St.2
  refine Goes.via (fun t k => XS.ifNo X2.here hx rfl (hb hby d2_3_30) rfl ((if0 _ _).trans (feq hc30_3).1) k) ?_
  show Goes p e below (T2.setTop (mkF m 33 #[.val (.ref a1), .val (.ref a2), .val (.int (0 : Int32)), .val (.int (3 : Int32)), .val .null, .unset] [])) _
  refine Goes.via (fun t k => XS.aloadN X2.here hx rfl (hb hby d2_3_33) rfl rfl k) ?_
  show Goes p e below (T2.setTop (mkF m 34 #[.val (.ref a1), .val (.ref a2), .val (.int (0 : Int32)), .val (.int (3 : Int32)), .val .null, .unset] [(.ref a2)])) _
  refine Goes.via (fun t k => XS.iloadN X2.here hx rfl (hb hby d2_3_34) rfl k) ?_
  show Goes p e below (T2.setTop (mkF m 35 #[.val (.ref a1), .val (.ref a2), .val (.int (0 : Int32)), .val (.int (3 : Int32)), .val .null, .unset] [(.int (0 : Int32)), (.ref a2)])) _
  refine Goes.via (fun t k => XS.iloadN X2.here hx rfl (hb hby d2_3_35) rfl k) ?_
  show Goes p e below (T2.setTop (mkF m 36 #[.val (.ref a1), .val (.ref a2), .val (.int (0 : Int32)), .val (.int (3 : Int32)), .val .null, .unset] [(.int (3 : Int32)), (.int (0 : Int32)), (.ref a2)])) _
  obtain ⟨_, _, ⟨T4, L4, k4, n4⟩, -, X4, ⟨Lc4, hQ4, l4, y4, z4⟩, st4⟩ := Jvm.LawKit.callS X2 hx (y := (⟨"java/lang/StringUTF16", "compress", "([CII)[B"⟩ : MethodName)) hown (mvT hZ (hw _ (List.mem_of_getElem? (i := 15) rfl))) (mvT hZ (hw _ (List.mem_of_getElem? (i := 16) rfl))) (mvT hZ (hw _ (List.mem_of_getElem? (i := 17) rfl))) (mvT hZ (hw _ (List.mem_of_getElem? (i := 18) rfl))) (by decide) (backOf (W := 0) (rm4_3 l Z a0 hw [] a2 k2 c0 c1 c2 h0 n0 Z0 V2 hc0 hc1 hc2) hZ (hw _ (List.mem_of_getElem? (i := 18) rfl)) (hw _ (List.mem_of_getElem? (i := 17) rfl)) (by decide) (by decide)) (g := (mkF m 36 #[.val (.ref a1), .val (.ref a2), .val (.int (0 : Int32)), .val (.int (3 : Int32)), .val .null, .unset] [(.int (3 : Int32)), (.int (0 : Int32)), (.ref a2)])) rfl (by rw [hml]; rfl) (argsL := [(.ref a2), (.int (0 : Int32)), (.int (3 : Int32))]) (rest := []) (lenOf pd_2_3_0 rfl) rfl (by show 2 * 0 + _ ≤ _; exact Nat.le_of_eq rfl) (hb hby d2_3_36) (fun _ _ => ⟨rfl, e2, (by decide : 0 + 1 ≤ _), (by decide : 0 + 3 ≤ _)⟩)
  dsimp only [Pt.U, Pt.locs, Pt.cells, Pt.slots] at X4 l4 y4 z4 st4 hQ4
  subst l4 y4 z4
  obtain ⟨t4, kt4, rfl, N4q, gt4, zt4, Kc4, Vc4⟩ := hQ4
  have lt_a1_t4 : a1 < t4 := Nat.lt_of_lt_of_le E1.lt zt4
  have lt_a2_t4 : a2 < t4 := Nat.lt_of_lt_of_le V2.lt zt4
  have sz_t4 : h0.size ≤ t4 := Nat.le_trans (Keep.refl h0 [a1]).1 zt4
  have F4_28 := E1.keep Kc4
  have F4_29 := Fv.keep Kc4 List.not_mem_nil
  have F4_30 := Fc.keep Kc4 List.not_mem_nil
  have F4_31 := V2.keep Kc4 List.not_mem_nil
  have K4 : Keep h0 T4.heap [a1] := (Keep.refl h0 [a1]).trans Kc4 (fun x hx => nomatch hx)
  have Z4 : n0 ≤ T4.heap.size := Nat.le_trans Z0 Kc4.1
  have O4 := O0.keep Kc4 (fun x hx => nomatch hx)
  have N4 := Fr.app N0 N4q
  refine Goes.via st4 ?_
  show Goes p e below (T4.setTop (mkF m 39 #[.val (.ref a1), .val (.ref a2), .val (.int (0 : Int32)), .val (.int (3 : Int32)), .val .null, .unset] [(.ref t4)])) _
  refine Goes.via (fun t k => XS.astore X4.here hx rfl (hb hby d2_3_39) rfl rfl (l' := #[.val (.ref a1), .val (.ref a2), .val (.int (0 : Int32)), .val (.int (3 : Int32)), .val .null, .val (.ref t4)]) rfl k) ?_
  show Goes p e below (T4.setTop (mkF m 41 #[.val (.ref a1), .val (.ref a2), .val (.int (0 : Int32)), .val (.int (3 : Int32)), .val .null, .val (.ref t4)] [])) _
  refine Goes.via (fun t k => XS.aloadN X4.here hx rfl (hb hby d2_3_41) rfl rfl k) ?_
  show Goes p e below (T4.setTop (mkF m 42 #[.val (.ref a1), .val (.ref a2), .val (.int (0 : Int32)), .val (.int (3 : Int32)), .val .null, .val (.ref t4)] [(.ref a1)])) _
  refine Goes.via (fun t k => XS.aload X4.here hx rfl (hb hby d2_3_42) rfl rfl k) ?_
  show Goes p e below (T4.setTop (mkF m 44 #[.val (.ref a1), .val (.ref a2), .val (.int (0 : Int32)), .val (.int (3 : Int32)), .val .null, .val (.ref t4)] [(.ref t4), (.ref a1)])) _
  refine Goes.via (fun t k => XS.iloadN X4.here hx rfl (hb hby d2_3_44) rfl k) ?_
  show Goes p e below (T4.setTop (mkF m 45 #[.val (.ref a1), .val (.ref a2), .val (.int (0 : Int32)), .val (.int (3 : Int32)), .val .null, .val (.ref t4)] [(.int (3 : Int32)), (.ref t4), (.ref a1)])) _
  obtain ⟨Lw5, X5w, N5w⟩ := ownPack X4 N4
  obtain ⟨_, _, ⟨T6, L6, k6, n6⟩, -, X6, ⟨Lc6, hQ6, l6, y6, z6⟩, st6⟩ := Jvm.LawKit.callS X5w hx (y := (⟨"java/lang/StringUTF16", "coderFromArrayLen", "([BI)B"⟩ : MethodName)) hown (mvT hZ (hw _ (List.mem_of_getElem? (i := 23) rfl))) (mvT hZ (hw _ (List.mem_of_getElem? (i := 24) rfl))) (mvT hZ (hw _ (List.mem_of_getElem? (i := 17) rfl))) (mvT hZ (hw _ (List.mem_of_getElem? (i := 25) rfl))) (by decide) (backOf (W := 1) (rm6_3 l Z a0 hw [] t4 kt4 _ T4.heap n0 Z4 Vc4) hZ (hw _ (List.mem_of_getElem? (i := 25) rfl)) (hw _ (List.mem_of_getElem? (i := 17) rfl)) (by decide) (by decide)) (g := (mkF m 45 #[.val (.ref a1), .val (.ref a2), .val (.int (0 : Int32)), .val (.int (3 : Int32)), .val .null, .val (.ref t4)] [(.int (3 : Int32)), (.ref t4), (.ref a1)])) rfl (by rw [hml]; rfl) (argsL := [(.ref t4), (.int (3 : Int32))]) (rest := [(.ref a1)]) (lenOf pd_2_3_1 rfl) rfl (by show 2 * 0 + _ ≤ _; exact Nat.le_of_eq rfl) (hb hby d2_3_45) (fun _ _ => ⟨rfl, rfl, (by decide : 1 + 0 ≤ _), (by decide : 3 + 0 ≤ _)⟩)
  dsimp only [Pt.U, Pt.locs, Pt.cells, Pt.slots] at X6 l6 y6 z6 st6 hQ6
  subst l6 y6 z6
  obtain ⟨rfl, N6q, er6⟩ := hQ6
  have e6 : T6.heap = T4.heap := er6
  have N6 := Fr.app N5w N6q
  refine Goes.via st6 ?_
  show Goes p e below (T6.setTop (mkF m 48 #[.val (.ref a1), .val (.ref a2), .val (.int (0 : Int32)), .val (.int (3 : Int32)), .val .null, .val (.ref t4)] [(.int (0 : Int32)), (.ref a1)])) _
  obtain ⟨T7, h7, X7, e7, W7, st7⟩ := putFN X6 hx hZ hown (hw _ (List.mem_of_getElem? (i := 26) rfl)) Via.refl e6 F4_30 F4_28 (Or.inr ⟨(hw _ (List.mem_of_getElem? (i := 27) rfl)), rfl, hnm⟩) (hw _ (List.mem_of_getElem? (i := 2) rfl)) (ty := .byte) (v' := (.int (0 : Int32))) (by decide) rfl (by decide) (g := (mkF m 48 #[.val (.ref a1), .val (.ref a2), .val (.int (0 : Int32)), .val (.int (3 : Int32)), .val .null, .val (.ref t4)] [(.int (0 : Int32)), (.ref a1)])) rfl rfl (hb hby d2_3_48)
  have Fw7 := F4_30.same W7
  have F7_57 := F4_28.wr W7
  have F7_58 := F4_29.other W7 (Or.inr (slot_ne (Or.inr (hw _ (List.mem_of_getElem? (i := 29) rfl))) (Or.inr (hw _ (List.mem_of_getElem? (i := 27) rfl))) (by decide) (t := (.array .byte)) (t' := .byte) (by decide) (by decide)))
  have F7_59 := F4_31.other W7 (Ne.symm ne12)
  have F7_60 := Vc4.other W7 (Nat.ne_of_gt lt_a1_t4)
  have K7 : Keep h0 h7 [a1] := K4.wr W7 (Or.inl (List.mem_of_getElem? (i := 0) rfl))
  have Z7 : n0 ≤ h7.size := Nat.le_trans Z4 (Keep.of_wr W7).1
  have N7 := Fr.snoc X7 N6 g1
  have O7 := O4.wr W7 g1
  refine Goes.via st7 ?_
  show Goes p e below (T7.setTop (mkF m 51 #[.val (.ref a1), .val (.ref a2), .val (.int (0 : Int32)), .val (.int (3 : Int32)), .val .null, .val (.ref t4)] [])) _
  refine Goes.via (fun t k => XS.aloadN X7.here hx rfl (hb hby d2_3_51) rfl rfl k) ?_
  show Goes p e below (T7.setTop (mkF m 52 #[.val (.ref a1), .val (.ref a2), .val (.int (0 : Int32)), .val (.int (3 : Int32)), .val .null, .val (.ref t4)] [(.ref a1)])) _
  refine Goes.via (fun t k => XS.aload X7.here hx rfl (hb hby d2_3_52) rfl rfl k) ?_
  show Goes p e below (T7.setTop (mkF m 54 #[.val (.ref a1), .val (.ref a2), .val (.int (0 : Int32)), .val (.int (3 : Int32)), .val .null, .val (.ref t4)] [(.ref t4), (.ref a1)])) _
  obtain ⟨T8, h8, X8, e8, W8, st8⟩ := putF X7 hx hZ hown (host := "") (Or.inl (hw _ (List.mem_of_getElem? (i := 28) rfl))) Via.refl e7 F7_58 F7_57 (Or.inr ⟨(hw _ (List.mem_of_getElem? (i := 29) rfl)), rfl, hnm⟩) (hw _ (List.mem_of_getElem? (i := 2) rfl)) (ty := (.array .byte)) (by decide) rfl rfl (g := (mkF m 54 #[.val (.ref a1), .val (.ref a2), .val (.int (0 : Int32)), .val (.int (3 : Int32)), .val .null, .val (.ref t4)] [(.ref t4), (.ref a1)])) rfl rfl (hb hby d2_3_54)
  have Fw8 := F7_58.same W8
  have F8_73 := F7_57.wr W8
  have F8_74 := F7_59.other W8 (Ne.symm ne12)
  have F8_75 := F7_60.other W8 (Nat.ne_of_gt lt_a1_t4)
  have F8_76 := Fw7.other W8 (Or.inr (slot_ne (Or.inr (hw _ (List.mem_of_getElem? (i := 27) rfl))) (Or.inr (hw _ (List.mem_of_getElem? (i := 29) rfl))) (by decide) (t := .byte) (t' := (.array .byte)) (by decide) (by decide)))
  have K8 : Keep h0 h8 [a1] := K7.wr W8 (Or.inl (List.mem_of_getElem? (i := 0) rfl))
  have Z8 : n0 ≤ h8.size := Nat.le_trans Z7 (Keep.of_wr W8).1
  have N8 := Fr.snoc X8 N7 g1
  have O8 := O7.wr W8 g1
  refine Goes.via st8 ?_
  show Goes p e below (T8.setTop (mkF m 57 #[.val (.ref a1), .val (.ref a2), .val (.int (0 : Int32)), .val (.int (3 : Int32)), .val .null, .val (.ref t4)] [])) _
  obtain ⟨fs, hr, hrun, hended, hW, hsame⟩ := X8.leave (v := none) (fun _ => rfl)
  refine ⟨_, _, ?_, hrun, hended, _, _, rfl, ?_, ⟨_, rfl⟩, hW, hsame.mono (by decide) (by decide)⟩
  · exact X8.returnOut hx Bd.returns (hb hby d2_3_57) hr
  · show Q2_3 Z a1 c0 c1 c2 h0 n0 _ T8.heap _
    rw [e8]
    exact ⟨rfl, N8, K8, F8_73, F8_76, t4, _, gt4, sz_t4, Fw8, F8_75⟩
theorem d1_3_0 : decode jdk_42_method_3_code 0 = .ok (.aload_n 0, 1) := by decide +kernel
theorem d1_3_1 : decode jdk_42_method_3_code 1 = .ok (.aload_n 1, 1) := by decide +kernel
theorem d1_3_2 : decode jdk_42_method_3_code 2 = .ok (.iconst 0, 1) := by decide +kernel
theorem d1_3_3 : decode jdk_42_method_3_code 3 = .ok (.aload_n 1, 1) := by decide +kernel
theorem d1_3_4 : decode jdk_42_method_3_code 4 = .ok (.arraylength, 1) := by decide +kernel
theorem d1_3_5 : decode jdk_42_method_3_code 5 = .ok (.aconst_null, 1) := by decide +kernel
theorem d1_3_6 : decode jdk_42_method_3_code 6 = .ok (.invokespecial 27, 3) := by decide +kernel
theorem d1_3_9 : decode jdk_42_method_3_code 9 = .ok (.return_, 1) := by decide +kernel
theorem pn_1_3 : plainName "java/lang/String" = true := by first | (simp [plainName, overriddenIn]; done) | decide +kernel
theorem pd_1_3_0 : parseMethodDescriptor "([CIILjava/lang/Void;)V" = some ⟨[(.array .char), .int, .int, (.object "java/lang/Void")], none⟩ := by decide +kernel
theorem ef_1_3 (m : MethodId) (x0 : Addr) (x1 : Addr) : entryFrame m #[(.ref x0), (.ref x1)] 2 = mkF m 0 #[.val (.ref x0), .val (.ref x1)] [] := by first | (simp [entryFrame, mkF, argsToLocals, Value.category]; done) | rfl
def Q1_3 (Z : State) (a1 : Addr) (c0 c1 c2 : Int32) (h0 : Heap) (n0 : Nat) (v : Option Value) (h : Heap) (L : List Loc) : Prop := v = none ∧ Fr n0 L ∧ Keep h0 h [a1] ∧ Exa Z h a1 "java/lang/String" ∧ Fld Z h a1 "java/lang/String" "coder" "B" (.int (0 : Int32)) ∧ ∃ (t : Addr) (k : ClassId), n0 ≤ t ∧ h0.size ≤ t ∧ Fld Z h a1 "java/lang/String" "value" "[B" (.ref t) ∧ Arv Z h t k .byte (3 : Int32) [(.int (nar .byte (c0.toInt8.toInt32))), (.int (nar .byte (c1.toInt8.toInt32))), (.int (nar .byte (c2.toInt8.toInt32)))] (.int (0 : Int32))
set_option maxRecDepth 65536 in
set_option maxHeartbeats 40000000 in
theorem rm1_3 (l : Launch) (Z : State) (a0 : Array Value) (hw : ∀ d ∈ tables_1, d.before a0 Z = true) (ws : List Jvm.Cond) (a1 : Addr) (a2 : Addr) (k2 : ClassId) (c0 c1 c2 : Int32) (w0 : Int32) (h0 : Heap) (n0 : Nat) (Z0 : n0 ≤ h0.size) (E1 : Exa Z h0 a1 "java/lang/String") (Fv : Fld Z h0 a1 "java/lang/String" "value" "[B" .null) (Fc : Fld Z h0 a1 "java/lang/String" "coder" "B" (.int (0 : Int32))) (V2 : Arv Z h0 a2 k2 .char (3 : Int32) [(.int c0), (.int c1), (.int c2)] (.int (0 : Int32))) (g1 : n0 ≤ a1) (ne12 : a1 ≠ a2) (O0 : Old Z n0 h0) (St : own_St Z w0) (hc0 : ¬ ((255 : Int32) < c0)) (hc1 : ¬ ((255 : Int32) < c1)) (hc2 : ¬ ((255 : Int32) < c2)) :
    MetFree l (⟨"java/lang/String", "<init>", "([C)V"⟩ : MethodName) (head1 (Jvm.Cond.code (⟨"java/lang/String", "<init>", "([C)V"⟩ : MethodName) jdk_42_method_3_code 2 none :: ws) ({ frames := 3, cells := 1, slots := 3, locals := 52 } : Room)) (fun a U => a = #[(.ref a1), (.ref a2)] ∧ Z.Warmed39 U.vm ∧ U.heap = h0) (fun _ _ _ _ _ => True) (fun _ U o U' => ∃ v L, o = .returned v ∧ Q1_3 Z a1 c0 c1 c2 h0 n0 v U'.heap L ∧ FrameEnd U o U' L ({ frames := 3, cells := 1, slots := 3, locals := 52 } : Room).cells ({ frames := 3, cells := 1, slots := 3, locals := 52 } : Room).slots) := by
  refine MetFree.of_bodySF (plainFor_of_name pn_1_3) hisR ?_
  intro p e s m args below meth c s₁ Bd hml0 hP hK
  obtain ⟨rfl, hZ, hh⟩ := hP
  have hx := Bd.exec
  have hby := Bd.bytes
  have hml : c.maxLocals = 2 := hml0
  have hown : s.vm.findClass "java/lang/String" = some m.cls := findClass_of_methodNamed Bd.named
  have hnm := (name_of_methodNamed Bd.named Bd.method).1
  have X0 : Stand p l e ({ frames := 3, cells := 1, slots := 3, locals := 52 } : Room) s m #[(.ref a1), (.ref a2)] below meth c s₁ [] 0 0 := Stand.of_body Bd
  have e0 : s₁.heap = h0 := by rw [← hh, Bd.state]; rfl
  have N0 := Fr.nil n0
  refine Goes.via (next := s₁.setTop (mkF m 0 #[.val (.ref a1), .val (.ref a2)] [])) (fun t k => castTop (ef_1_3 m a1 a2) k) ?_
  refine Goes.via (fun t k => XS.aloadN X0.here hx rfl (hb hby d1_3_0) rfl rfl k) ?_
  show Goes p e below (s₁.setTop (mkF m 1 #[.val (.ref a1), .val (.ref a2)] [(.ref a1)])) _
  refine Goes.via (fun t k => XS.aloadN X0.here hx rfl (hb hby d1_3_1) rfl rfl k) ?_
  show Goes p e below (s₁.setTop (mkF m 2 #[.val (.ref a1), .val (.ref a2)] [(.ref a2), (.ref a1)])) _
  refine Goes.via (fun t k => XS.iconst X0.here hx rfl (hb hby d1_3_2) k) ?_
  show Goes p e below (s₁.setTop (mkF m 3 #[.val (.ref a1), .val (.ref a2)] [(.int (0 : Int32)), (.ref a2), (.ref a1)])) _
  refine Goes.via (fun t k => XS.aloadN X0.here hx rfl (hb hby d1_3_3) rfl rfl k) ?_
  show Goes p e below (s₁.setTop (mkF m 4 #[.val (.ref a1), .val (.ref a2)] [(.ref a2), (.int (0 : Int32)), (.ref a2), (.ref a1)])) _
  obtain ⟨cl1, Ar1, -, Sa1, Na1, -, -⟩ := id V2
  refine Goes.via (next := s₁.setTop (mkF m 5 #[.val (.ref a1), .val (.ref a2)] [(.int (3 : Int32)), (.int (0 : Int32)), (.ref a2), (.ref a1)])) (fun t k => X0.arraylength hx (by rw [e0]; exact Ar1.1) (State.isArrayOf_alike hZ.alike Ar1.2.1) (g := (mkF m 4 #[.val (.ref a1), .val (.ref a2)] [(.ref a2), (.int (0 : Int32)), (.ref a2), (.ref a1)])) rfl rfl (hb hby d1_3_4) _ (by rw [len_of Sa1 Na1]; exact k)) ?_
  show Goes p e below (s₁.setTop (mkF m 5 #[.val (.ref a1), .val (.ref a2)] [(.int (3 : Int32)), (.int (0 : Int32)), (.ref a2), (.ref a1)])) _
  refine Goes.via (fun t k => XS.aconstNull X0.here hx rfl (hb hby d1_3_5) k) ?_
  show Goes p e below (s₁.setTop (mkF m 6 #[.val (.ref a1), .val (.ref a2)] [.null, (.int (3 : Int32)), (.int (0 : Int32)), (.ref a2), (.ref a1)])) _
  obtain ⟨_, _, ⟨T2, L2, k2, n2⟩, -, X2, ⟨Lc2, hQ2, l2, y2, z2⟩, st2⟩ := X0.specialBack hx (y := (⟨"java/lang/String", "<init>", "([CIILjava/lang/Void;)V"⟩ : MethodName)) rfl hown (mvT hZ (hw _ (List.mem_of_getElem? (i := 7) rfl))) (mvT hZ (hw _ (List.mem_of_getElem? (i := 8) rfl))) (mvT hZ (hw _ (List.mem_of_getElem? (i := 10) rfl))) (by decide) (backOf (W := 0) (rm2_3 l Z a0 hw [] a1 a2 k2 c0 c1 c2 w0 h0 n0 Z0 E1 Fv Fc V2 g1 ne12 O0 St hc0 hc1 hc2) hZ (hw _ (List.mem_of_getElem? (i := 10) rfl)) (hw _ (List.mem_of_getElem? (i := 3) rfl)) (by decide) (by decide)) (g := (mkF m 6 #[.val (.ref a1), .val (.ref a2)] [.null, (.int (3 : Int32)), (.int (0 : Int32)), (.ref a2), (.ref a1)])) rfl (by rw [hml]; rfl) (Steps.refl _) (a := a1) (argsL := [(.ref a2), (.int (0 : Int32)), (.int (3 : Int32)), .null]) (rest := []) (lenOf pd_1_3_0 rfl) rfl (by show 2 * 0 + _ ≤ _; exact Nat.le_of_eq rfl) (hb hby d1_3_6) (fun _ _ => ⟨rfl, e0, (by decide : 0 + 1 ≤ _), (by decide : 0 + 3 ≤ _)⟩)
  dsimp only [Pt.U, Pt.locs, Pt.cells, Pt.slots] at X2 l2 y2 z2 st2 hQ2
  subst l2 y2 z2
  obtain ⟨rfl, N2q, Kc2, Ec2, Cc2, t2, kt2, gt2, zt2, Vq2, Vc2⟩ := hQ2
  have lt_a1_t2 : a1 < t2 := Nat.lt_of_lt_of_le E1.lt zt2
  have lt_a2_t2 : a2 < t2 := Nat.lt_of_lt_of_le V2.lt zt2
  have sz_t2 : h0.size ≤ t2 := Nat.le_trans (Keep.refl h0 [a1]).1 zt2
  have F2_20 := E1.keep Kc2
  have F2_21 := V2.keep Kc2 (fun q => (Ne.symm ne12) (List.mem_singleton.mp q))
  have K2 : Keep h0 T2.heap [a1] := (Keep.refl h0 [a1]).trans Kc2 (fun x hx => by cases List.mem_singleton.mp hx; exact Or.inl (List.mem_of_getElem? (i := 0) rfl))
  have Z2 : n0 ≤ T2.heap.size := Nat.le_trans Z0 Kc2.1
  have O2 := O0.keep Kc2 (fun x hx => by cases List.mem_singleton.mp hx; exact g1)
  have N2 := Fr.app N0 N2q
  refine Goes.via (fun t k => st2.trans k) ?_
  show Goes p e below (T2.setTop (mkF m 9 #[.val (.ref a1), .val (.ref a2)] [])) _
  obtain ⟨fs, hr, hrun, hended, hW, hsame⟩ := X2.leave (v := none) (fun _ => rfl)
  refine ⟨_, _, ?_, hrun, hended, _, _, rfl, ?_, ⟨_, rfl⟩, hW, hsame.mono (by decide) (by decide)⟩
  · exact X2.returnOut hx Bd.returns (hb hby d1_3_9) hr
  · show Q1_3 Z a1 c0 c1 c2 h0 n0 _ T2.heap _
    exact ⟨rfl, N2, K2, F2_20, Cc2, t2, _, gt2, sz_t2, Vq2, Vc2⟩
theorem d5_6_0 : decode jdk_52_method_21_code 0 = .ok (.iconst 0, 1) := by decide +kernel
theorem d5_6_1 : decode jdk_52_method_21_code 1 = .ok (.istore 5, 2) := by decide +kernel
theorem d5_6_3 : decode jdk_52_method_21_code 3 = .ok (.iload 5, 2) := by decide +kernel
theorem d5_6_5 : decode jdk_52_method_21_code 5 = .ok (.iload 4, 2) := by decide +kernel
theorem d5_6_7 : decode jdk_52_method_21_code 7 = .ok (.if_icmp .ge 37, 3) := by decide +kernel
theorem d5_6_10 : decode jdk_52_method_21_code 10 = .ok (.aload_n 0, 1) := by decide +kernel
theorem d5_6_11 : decode jdk_52_method_21_code 11 = .ok (.iload_n 1, 1) := by decide +kernel
theorem d5_6_12 : decode jdk_52_method_21_code 12 = .ok (.caload, 1) := by decide +kernel
theorem d5_6_13 : decode jdk_52_method_21_code 13 = .ok (.istore 6, 2) := by decide +kernel
theorem d5_6_15 : decode jdk_52_method_21_code 15 = .ok (.iload 6, 2) := by decide +kernel
theorem d5_6_17 : decode jdk_52_method_21_code 17 = .ok (.sipush 255, 3) := by decide +kernel
theorem d5_6_20 : decode jdk_52_method_21_code 20 = .ok (.if_icmp .le 6, 3) := by decide +kernel
theorem d5_6_26 : decode jdk_52_method_21_code 26 = .ok (.aload_n 2, 1) := by decide +kernel
theorem d5_6_27 : decode jdk_52_method_21_code 27 = .ok (.iload_n 3, 1) := by decide +kernel
theorem d5_6_28 : decode jdk_52_method_21_code 28 = .ok (.iload 6, 2) := by decide +kernel
theorem d5_6_30 : decode jdk_52_method_21_code 30 = .ok (.i2b, 1) := by decide +kernel
theorem d5_6_31 : decode jdk_52_method_21_code 31 = .ok (.bastore, 1) := by decide +kernel
theorem d5_6_32 : decode jdk_52_method_21_code 32 = .ok (.iinc 1 1, 3) := by decide +kernel
theorem d5_6_35 : decode jdk_52_method_21_code 35 = .ok (.iinc 3 1, 3) := by decide +kernel
theorem d5_6_38 : decode jdk_52_method_21_code 38 = .ok (.iinc 5 1, 3) := by decide +kernel
theorem d5_6_41 : decode jdk_52_method_21_code 41 = .ok (.goto (-38), 3) := by decide +kernel
theorem d5_6_44 : decode jdk_52_method_21_code 44 = .ok (.iload 4, 2) := by decide +kernel
theorem d5_6_46 : decode jdk_52_method_21_code 46 = .ok (.ireturn, 1) := by decide +kernel
theorem pn_5_6 : plainName "java/lang/StringUTF16" = true := by first | (simp [plainName, overriddenIn]; done) | decide +kernel
theorem ef_5_6 (m : MethodId) (x0 : Addr) (x2 : Addr) : entryFrame m #[(.ref x0), (.int (0 : Int32)), (.ref x2), (.int (0 : Int32)), (.int (6 : Int32))] 7 = mkF m 0 #[.val (.ref x0), .val (.int (0 : Int32)), .val (.ref x2), .val (.int (0 : Int32)), .val (.int (6 : Int32)), .unset, .unset] [] := by first | (simp [entryFrame, mkF, argsToLocals, Value.category]; done) | rfl
def Q5_6 (Z : State) (a2 : Addr) (k2 : ClassId) (c0 c1 c2 c3 c4 c5 : Int32) (h0 : Heap) (n0 : Nat) (v : Option Value) (h : Heap) (L : List Loc) : Prop := v = some (.int (6 : Int32)) ∧ Fr n0 L ∧ Keep h0 h [a2] ∧ Arv Z h a2 k2 .byte (6 : Int32) [(.int (nar .byte (c0.toInt8.toInt32))), (.int (nar .byte (c1.toInt8.toInt32))), (.int (nar .byte (c2.toInt8.toInt32))), (.int (nar .byte (c3.toInt8.toInt32))), (.int (nar .byte (c4.toInt8.toInt32))), (.int (nar .byte (c5.toInt8.toInt32)))] (.int (0 : Int32))
set_option maxRecDepth 65536 in
set_option maxHeartbeats 40000000 in
theorem rm5_6 (l : Launch) (Z : State) (a0 : Array Value) (hw : ∀ d ∈ tables_1, d.before a0 Z = true) (ws : List Jvm.Cond) (a1 : Addr) (a2 : Addr) (k1 k2 : ClassId) (c0 c1 c2 c3 c4 c5 : Int32) (h0 : Heap) (n0 : Nat) (Z0 : n0 ≤ h0.size) (V1 : Arv Z h0 a1 k1 .char (6 : Int32) [(.int c0), (.int c1), (.int c2), (.int c3), (.int c4), (.int c5)] (.int (0 : Int32))) (V2 : Arv Z h0 a2 k2 .byte (6 : Int32) [(.int (0 : Int32)), (.int (0 : Int32)), (.int (0 : Int32)), (.int (0 : Int32)), (.int (0 : Int32)), (.int (0 : Int32))] (.int (0 : Int32))) (g2 : n0 ≤ a2) (lt12 : a1 < a2) (hc0 : ¬ ((255 : Int32) < c0)) (hc1 : ¬ ((255 : Int32) < c1)) (hc2 : ¬ ((255 : Int32) < c2)) (hc3 : ¬ ((255 : Int32) < c3)) (hc4 : ¬ ((255 : Int32) < c4)) (hc5 : ¬ ((255 : Int32) < c5)) :
    MetFree l (⟨"java/lang/StringUTF16", "compress", "([CI[BII)I"⟩ : MethodName) (head1 (Jvm.Cond.code (⟨"java/lang/StringUTF16", "compress", "([CI[BII)I"⟩ : MethodName) jdk_52_method_21_code 7 (some .int) :: ws) ({ frames := 0, cells := 0, slots := 0, locals := 0 } : Room)) (fun a U => a = #[(.ref a1), (.int (0 : Int32)), (.ref a2), (.int (0 : Int32)), (.int (6 : Int32))] ∧ Z.Warmed39 U.vm ∧ U.heap = h0) (fun _ _ _ _ _ => True) (fun _ U o U' => ∃ v L, o = .returned v ∧ Q5_6 Z a2 k2 c0 c1 c2 c3 c4 c5 h0 n0 v U'.heap L ∧ FrameEnd U o U' L ({ frames := 0, cells := 0, slots := 0, locals := 0 } : Room).cells ({ frames := 0, cells := 0, slots := 0, locals := 0 } : Room).slots) := by
  refine MetFree.of_bodySF (plainFor_of_name pn_5_6) hisR ?_
  intro p e s m args below meth c s₁ Bd hml0 hP hK
  obtain ⟨rfl, hZ, hh⟩ := hP
  have hx := Bd.exec
  have hby := Bd.bytes
  have hml : c.maxLocals = 7 := hml0
  have hown : s.vm.findClass "java/lang/StringUTF16" = some m.cls := findClass_of_methodNamed Bd.named
  have hnm := (name_of_methodNamed Bd.named Bd.method).1
  have X0 : Stand p l e ({ frames := 0, cells := 0, slots := 0, locals := 0 } : Room) s m #[(.ref a1), (.int (0 : Int32)), (.ref a2), (.int (0 : Int32)), (.int (6 : Int32))] below meth c s₁ [] 0 0 := Stand.of_body Bd
  have e0 : s₁.heap = h0 := by rw [← hh, Bd.state]; rfl
  have N0 := Fr.nil n0
  refine Goes.via (next := s₁.setTop (mkF m 0 #[.val (.ref a1), .val (.int (0 : Int32)), .val (.ref a2), .val (.int (0 : Int32)), .val (.int (6 : Int32)), .unset, .unset] [])) (fun t k => castTop (ef_5_6 m a1 a2) k) ?_
  refine Goes.via (fun t k => XS.iconst X0.here hx rfl (hb hby d5_6_0) k) ?_
  show Goes p e below (s₁.setTop (mkF m 1 #[.val (.ref a1), .val (.int (0 : Int32)), .val (.ref a2), .val (.int (0 : Int32)), .val (.int (6 : Int32)), .unset, .unset] [(.int (0 : Int32))])) _
  refine Goes.via (fun t k => XS.istore X0.here hx rfl (hb hby d5_6_1) rfl (l' := #[.val (.ref a1), .val (.int (0 : Int32)), .val (.ref a2), .val (.int (0 : Int32)), .val (.int (6 : Int32)), .val (.int (0 : Int32)), .unset]) rfl k) ?_
  show Goes p e below (s₁.setTop (mkF m 3 #[.val (.ref a1), .val (.int (0 : Int32)), .val (.ref a2), .val (.int (0 : Int32)), .val (.int (6 : Int32)), .val (.int (0 : Int32)), .unset] [])) _
  refine Goes.via (fun t k => XS.iload X0.here hx rfl (hb hby d5_6_3) rfl k) ?_
  show Goes p e below (s₁.setTop (mkF m 5 #[.val (.ref a1), .val (.int (0 : Int32)), .val (.ref a2), .val (.int (0 : Int32)), .val (.int (6 : Int32)), .val (.int (0 : Int32)), .unset] [(.int (0 : Int32))])) _
  refine Goes.via (fun t k => XS.iload X0.here hx rfl (hb hby d5_6_5) rfl k) ?_
  show Goes p e below (s₁.setTop (mkF m 7 #[.val (.ref a1), .val (.int (0 : Int32)), .val (.ref a2), .val (.int (0 : Int32)), .val (.int (6 : Int32)), .val (.int (0 : Int32)), .unset] [(.int (6 : Int32)), (.int (0 : Int32))])) _
  refine Goes.via (fun t k => XS.icmpNo X0.here hx rfl (hb hby d5_6_7) rfl (tlt (show (0 : Int32) < (6 : Int32) from (by decide))).2.1 k) ?_
  show Goes p e below (s₁.setTop (mkF m 10 #[.val (.ref a1), .val (.int (0 : Int32)), .val (.ref a2), .val (.int (0 : Int32)), .val (.int (6 : Int32)), .val (.int (0 : Int32)), .unset] [])) _
  refine Goes.via (fun t k => XS.aloadN X0.here hx rfl (hb hby d5_6_10) rfl rfl k) ?_
  show Goes p e below (s₁.setTop (mkF m 11 #[.val (.ref a1), .val (.int (0 : Int32)), .val (.ref a2), .val (.int (0 : Int32)), .val (.int (6 : Int32)), .val (.int (0 : Int32)), .unset] [(.ref a1)])) _
  refine Goes.via (fun t k => XS.iloadN X0.here hx rfl (hb hby d5_6_11) rfl k) ?_
  show Goes p e below (s₁.setTop (mkF m 12 #[.val (.ref a1), .val (.int (0 : Int32)), .val (.ref a2), .val (.int (0 : Int32)), .val (.int (6 : Int32)), .val (.int (0 : Int32)), .unset] [(.int (0 : Int32)), (.ref a1)])) _
  obtain ⟨cl1, Ar1, qa1, Sa1, Na1, Ha1, Ga1⟩ := id V1
  have hin1 : ¬ ((0 : Int32) < 0 ∨ cl1.slots.size ≤ ((0 : Int32)).toNatClampNeg) := inb_of Sa1 ⟨by decide, by decide⟩
  have hat1 : cl1.slots[((0 : Int32)).toNatClampNeg]? = some (.int c0) := Ha1.at hin1 rfl
  refine Goes.via (fun t k => X0.caload hx (j := (0 : Int32)) (v := (.int c0)) (by rw [e0]; exact Ar1.1) (State.isArrayOf_alike hZ.alike Ar1.2.1) Ar1.2.2 hin1 hat1 (g := (mkF m 12 #[.val (.ref a1), .val (.int (0 : Int32)), .val (.ref a2), .val (.int (0 : Int32)), .val (.int (6 : Int32)), .val (.int (0 : Int32)), .unset] [(.int (0 : Int32)), (.ref a1)])) rfl rfl (hb hby d5_6_12) _ k) ?_
  show Goes p e below (s₁.setTop (mkF m 13 #[.val (.ref a1), .val (.int (0 : Int32)), .val (.ref a2), .val (.int (0 : Int32)), .val (.int (6 : Int32)), .val (.int (0 : Int32)), .unset] [(.int c0)])) _
  refine Goes.via (fun t k => XS.istore X0.here hx rfl (hb hby d5_6_13) rfl (l' := #[.val (.ref a1), .val (.int (0 : Int32)), .val (.ref a2), .val (.int (0 : Int32)), .val (.int (6 : Int32)), .val (.int (0 : Int32)), .val (.int c0)]) rfl k) ?_
  show Goes p e below (s₁.setTop (mkF m 15 #[.val (.ref a1), .val (.int (0 : Int32)), .val (.ref a2), .val (.int (0 : Int32)), .val (.int (6 : Int32)), .val (.int (0 : Int32)), .val (.int c0)] [])) _
  refine Goes.via (fun t k => XS.iload X0.here hx rfl (hb hby d5_6_15) rfl k) ?_
  show Goes p e below (s₁.setTop (mkF m 17 #[.val (.ref a1), .val (.int (0 : Int32)), .val (.ref a2), .val (.int (0 : Int32)), .val (.int (6 : Int32)), .val (.int (0 : Int32)), .val (.int c0)] [(.int c0)])) _
  refine Goes.via (fun t k => XS.sipush X0.here hx rfl (hb hby d5_6_17) k) ?_
  show Goes p e below (s₁.setTop (mkF m 20 #[.val (.ref a1), .val (.int (0 : Int32)), .val (.ref a2), .val (.int (0 : Int32)), .val (.int (6 : Int32)), .val (.int (0 : Int32)), .val (.int c0)] [(.int (255 : Int32)), (.int c0)])) _
  refine Goes.via (fun t k => XS.icmpYes X0.here hx rfl (pc0 := 20) (pc' := 26) rfl (hb hby d5_6_20) rfl (flt hc0).2.2.2 (by decide) (by decide) k) ?_
  show Goes p e below (s₁.setTop (mkF m 26 #[.val (.ref a1), .val (.int (0 : Int32)), .val (.ref a2), .val (.int (0 : Int32)), .val (.int (6 : Int32)), .val (.int (0 : Int32)), .val (.int c0)] [])) _
  refine Goes.via (fun t k => XS.aloadN X0.here hx rfl (hb hby d5_6_26) rfl rfl k) ?_
  show Goes p e below (s₁.setTop (mkF m 27 #[.val (.ref a1), .val (.int (0 : Int32)), .val (.ref a2), .val (.int (0 : Int32)), .val (.int (6 : Int32)), .val (.int (0 : Int32)), .val (.int c0)] [(.ref a2)])) _
  refine Goes.via (fun t k => XS.iloadN X0.here hx rfl (hb hby d5_6_27) rfl k) ?_
  show Goes p e below (s₁.setTop (mkF m 28 #[.val (.ref a1), .val (.int (0 : Int32)), .val (.ref a2), .val (.int (0 : Int32)), .val (.int (6 : Int32)), .val (.int (0 : Int32)), .val (.int c0)] [(.int (0 : Int32)), (.ref a2)])) _
  refine Goes.via (fun t k => XS.iload X0.here hx rfl (hb hby d5_6_28) rfl k) ?_
  show Goes p e below (s₁.setTop (mkF m 30 #[.val (.ref a1), .val (.int (0 : Int32)), .val (.ref a2), .val (.int (0 : Int32)), .val (.int (6 : Int32)), .val (.int (0 : Int32)), .val (.int c0)] [(.int c0), (.int (0 : Int32)), (.ref a2)])) _
  refine Goes.via (fun t k => XS.i2b X0.here hx rfl (hb hby d5_6_30) rfl k) ?_
  show Goes p e below (s₁.setTop (mkF m 31 #[.val (.ref a1), .val (.int (0 : Int32)), .val (.ref a2), .val (.int (0 : Int32)), .val (.int (6 : Int32)), .val (.int (0 : Int32)), .val (.int c0)] [(.int (c0.toInt8.toInt32)), (.int (0 : Int32)), (.ref a2)])) _
  obtain ⟨cl2, Ar2, qa2, Sa2, Na2, Ha2, Ga2⟩ := V2
  have hin2 : ¬ ((0 : Int32) < 0 ∨ cl2.slots.size ≤ ((0 : Int32)).toNatClampNeg) := inb_of Sa2 ⟨by decide, by decide⟩
  obtain ⟨T2, h2, X2, e2, W2, st2⟩ := stB X0 hx hZ e0 Ar2 (j := (0 : Int32)) hin2 (g := (mkF m 31 #[.val (.ref a1), .val (.int (0 : Int32)), .val (.ref a2), .val (.int (0 : Int32)), .val (.int (6 : Int32)), .val (.int (0 : Int32)), .val (.int c0)] [(.int (c0.toInt8.toInt32)), (.int (0 : Int32)), (.ref a2)])) rfl rfl (hb hby d5_6_31)
  have V2 : Arv Z h2 a2 k2 .byte (6 : Int32) [(.int (nar .byte (c0.toInt8.toInt32))), (.int (0 : Int32)), (.int (0 : Int32)), (.int (0 : Int32)), (.int (0 : Int32)), (.int (0 : Int32))] (.int (0 : Int32)) := Arv.set Ar2 qa2 Sa2 Na2 Ha2 Ga2 (fits_nar_byte _) W2 0 rfl (Nat.le_of_ble_eq_true rfl)
  have F2_39 := V1.other W2 (Nat.ne_of_lt lt12)
  have K2 : Keep h0 h2 [a2] := (Keep.refl h0 [a2]).wr W2 (Or.inl (List.mem_of_getElem? (i := 0) rfl))
  have Z2 : n0 ≤ h2.size := Nat.le_trans Z0 (Keep.of_wr W2).1
  have N2 := Fr.snoc X2 N0 g2
  refine Goes.via st2 ?_
  show Goes p e below (T2.setTop (mkF m 32 #[.val (.ref a1), .val (.int (0 : Int32)), .val (.ref a2), .val (.int (0 : Int32)), .val (.int (6 : Int32)), .val (.int (0 : Int32)), .val (.int c0)] [])) _
  refine Goes.via (fun t k => XS.iinc X2.here hx rfl (hb hby d5_6_32) rfl (l' := #[.val (.ref a1), .val (.int (1 : Int32)), .val (.ref a2), .val (.int (0 : Int32)), .val (.int (6 : Int32)), .val (.int (0 : Int32)), .val (.int c0)]) rfl k) ?_
  show Goes p e below (T2.setTop (mkF m 35 #[.val (.ref a1), .val (.int (1 : Int32)), .val (.ref a2), .val (.int (0 : Int32)), .val (.int (6 : Int32)), .val (.int (0 : Int32)), .val (.int c0)] [])) _
  refine Goes.via (fun t k => XS.iinc X2.here hx rfl (hb hby d5_6_35) rfl (l' := #[.val (.ref a1), .val (.int (1 : Int32)), .val (.ref a2), .val (.int (1 : Int32)), .val (.int (6 : Int32)), .val (.int (0 : Int32)), .val (.int c0)]) rfl k) ?_
  show Goes p e below (T2.setTop (mkF m 38 #[.val (.ref a1), .val (.int (1 : Int32)), .val (.ref a2), .val (.int (1 : Int32)), .val (.int (6 : Int32)), .val (.int (0 : Int32)), .val (.int c0)] [])) _
  refine Goes.via (fun t k => XS.iinc X2.here hx rfl (hb hby d5_6_38) rfl (l' := #[.val (.ref a1), .val (.int (1 : Int32)), .val (.ref a2), .val (.int (1 : Int32)), .val (.int (6 : Int32)), .val (.int (1 : Int32)), .val (.int c0)]) rfl k) ?_
  show Goes p e below (T2.setTop (mkF m 41 #[.val (.ref a1), .val (.int (1 : Int32)), .val (.ref a2), .val (.int (1 : Int32)), .val (.int (6 : Int32)), .val (.int (1 : Int32)), .val (.int c0)] [])) _
  refine Goes.via (fun t k => XS.goto X2.here hx rfl (pc0 := 41) (pc' := 3) rfl (hb hby d5_6_41) (by decide) (by decide) k) ?_
  show Goes p e below (T2.setTop (mkF m 3 #[.val (.ref a1), .val (.int (1 : Int32)), .val (.ref a2), .val (.int (1 : Int32)), .val (.int (6 : Int32)), .val (.int (1 : Int32)), .val (.int c0)] [])) _
  refine Goes.via (fun t k => XS.iload X2.here hx rfl (hb hby d5_6_3) rfl k) ?_
  show Goes p e below (T2.setTop (mkF m 5 #[.val (.ref a1), .val (.int (1 : Int32)), .val (.ref a2), .val (.int (1 : Int32)), .val (.int (6 : Int32)), .val (.int (1 : Int32)), .val (.int c0)] [(.int (1 : Int32))])) _
  refine Goes.via (fun t k => XS.iload X2.here hx rfl (hb hby d5_6_5) rfl k) ?_
  show Goes p e below (T2.setTop (mkF m 7 #[.val (.ref a1), .val (.int (1 : Int32)), .val (.ref a2), .val (.int (1 : Int32)), .val (.int (6 : Int32)), .val (.int (1 : Int32)), .val (.int c0)] [(.int (6 : Int32)), (.int (1 : Int32))])) _
  refine Goes.via (fun t k => XS.icmpNo X2.here hx rfl (hb hby d5_6_7) rfl (tlt (show (1 : Int32) < (6 : Int32) from (by decide))).2.1 k) ?_
  show Goes p e below (T2.setTop (mkF m 10 #[.val (.ref a1), .val (.int (1 : Int32)), .val (.ref a2), .val (.int (1 : Int32)), .val (.int (6 : Int32)), .val (.int (1 : Int32)), .val (.int c0)] [])) _
  refine Goes.via (fun t k => XS.aloadN X2.here hx rfl (hb hby d5_6_10) rfl rfl k) ?_
  show Goes p e below (T2.setTop (mkF m 11 #[.val (.ref a1), .val (.int (1 : Int32)), .val (.ref a2), .val (.int (1 : Int32)), .val (.int (6 : Int32)), .val (.int (1 : Int32)), .val (.int c0)] [(.ref a1)])) _
  refine Goes.via (fun t k => XS.iloadN X2.here hx rfl (hb hby d5_6_11) rfl k) ?_
  show Goes p e below (T2.setTop (mkF m 12 #[.val (.ref a1), .val (.int (1 : Int32)), .val (.ref a2), .val (.int (1 : Int32)), .val (.int (6 : Int32)), .val (.int (1 : Int32)), .val (.int c0)] [(.int (1 : Int32)), (.ref a1)])) _
  obtain ⟨cl3, Ar3, qa3, Sa3, Na3, Ha3, Ga3⟩ := id F2_39
  have hin3 : ¬ ((1 : Int32) < 0 ∨ cl3.slots.size ≤ ((1 : Int32)).toNatClampNeg) := inb_of Sa3 ⟨by decide, by decide⟩
  have hat3 : cl3.slots[((1 : Int32)).toNatClampNeg]? = some (.int c1) := Ha3.at hin3 rfl
  refine Goes.via (fun t k => X2.caload hx (j := (1 : Int32)) (v := (.int c1)) (by rw [e2]; exact Ar3.1) (State.isArrayOf_alike hZ.alike Ar3.2.1) Ar3.2.2 hin3 hat3 (g := (mkF m 12 #[.val (.ref a1), .val (.int (1 : Int32)), .val (.ref a2), .val (.int (1 : Int32)), .val (.int (6 : Int32)), .val (.int (1 : Int32)), .val (.int c0)] [(.int (1 : Int32)), (.ref a1)])) rfl rfl (hb hby d5_6_12) _ k) ?_
  show Goes p e below (T2.setTop (mkF m 13 #[.val (.ref a1), .val (.int (1 : Int32)), .val (.ref a2), .val (.int (1 : Int32)), .val (.int (6 : Int32)), .val (.int (1 : Int32)), .val (.int c0)] [(.int c1)])) _
  refine Goes.via (fun t k => XS.istore X2.here hx rfl (hb hby d5_6_13) rfl (l' := #[.val (.ref a1), .val (.int (1 : Int32)), .val (.ref a2), .val (.int (1 : Int32)), .val (.int (6 : Int32)), .val (.int (1 : Int32)), .val (.int c1)]) rfl k) ?_
  show Goes p e below (T2.setTop (mkF m 15 #[.val (.ref a1), .val (.int (1 : Int32)), .val (.ref a2), .val (.int (1 : Int32)), .val (.int (6 : Int32)), .val (.int (1 : Int32)), .val (.int c1)] [])) _
  refine Goes.via (fun t k => XS.iload X2.here hx rfl (hb hby d5_6_15) rfl k) ?_
  show Goes p e below (T2.setTop (mkF m 17 #[.val (.ref a1), .val (.int (1 : Int32)), .val (.ref a2), .val (.int (1 : Int32)), .val (.int (6 : Int32)), .val (.int (1 : Int32)), .val (.int c1)] [(.int c1)])) _
  refine Goes.via (fun t k => XS.sipush X2.here hx rfl (hb hby d5_6_17) k) ?_
  show Goes p e below (T2.setTop (mkF m 20 #[.val (.ref a1), .val (.int (1 : Int32)), .val (.ref a2), .val (.int (1 : Int32)), .val (.int (6 : Int32)), .val (.int (1 : Int32)), .val (.int c1)] [(.int (255 : Int32)), (.int c1)])) _
  refine Goes.via (fun t k => XS.icmpYes X2.here hx rfl (pc0 := 20) (pc' := 26) rfl (hb hby d5_6_20) rfl (flt hc1).2.2.2 (by decide) (by decide) k) ?_
  show Goes p e below (T2.setTop (mkF m 26 #[.val (.ref a1), .val (.int (1 : Int32)), .val (.ref a2), .val (.int (1 : Int32)), .val (.int (6 : Int32)), .val (.int (1 : Int32)), .val (.int c1)] [])) _
  refine Goes.via (fun t k => XS.aloadN X2.here hx rfl (hb hby d5_6_26) rfl rfl k) ?_
  show Goes p e below (T2.setTop (mkF m 27 #[.val (.ref a1), .val (.int (1 : Int32)), .val (.ref a2), .val (.int (1 : Int32)), .val (.int (6 : Int32)), .val (.int (1 : Int32)), .val (.int c1)] [(.ref a2)])) _
  refine Goes.via (fun t k => XS.iloadN X2.here hx rfl (hb hby d5_6_27) rfl k) ?_
  show Goes p e below (T2.setTop (mkF m 28 #[.val (.ref a1), .val (.int (1 : Int32)), .val (.ref a2), .val (.int (1 : Int32)), .val (.int (6 : Int32)), .val (.int (1 : Int32)), .val (.int c1)] [(.int (1 : Int32)), (.ref a2)])) _
  refine Goes.via (fun t k => XS.iload X2.here hx rfl (hb hby d5_6_28) rfl k) ?_
  show Goes p e below (T2.setTop (mkF m 30 #[.val (.ref a1), .val (.int (1 : Int32)), .val (.ref a2), .val (.int (1 : Int32)), .val (.int (6 : Int32)), .val (.int (1 : Int32)), .val (.int c1)] [(.int c1), (.int (1 : Int32)), (.ref a2)])) _
  refine Goes.via (fun t k => XS.i2b X2.here hx rfl (hb hby d5_6_30) rfl k) ?_
  show Goes p e below (T2.setTop (mkF m 31 #[.val (.ref a1), .val (.int (1 : Int32)), .val (.ref a2), .val (.int (1 : Int32)), .val (.int (6 : Int32)), .val (.int (1 : Int32)), .val (.int c1)] [(.int (c1.toInt8.toInt32)), (.int (1 : Int32)), (.ref a2)])) _
  obtain ⟨cl4, Ar4, qa4, Sa4, Na4, Ha4, Ga4⟩ := V2
  have hin4 : ¬ ((1 : Int32) < 0 ∨ cl4.slots.size ≤ ((1 : Int32)).toNatClampNeg) := inb_of Sa4 ⟨by decide, by decide⟩
  obtain ⟨T4, h4, X4, e4, W4, st4⟩ := stB X2 hx hZ e2 Ar4 (j := (1 : Int32)) hin4 (g := (mkF m 31 #[.val (.ref a1), .val (.int (1 : Int32)), .val (.ref a2), .val (.int (1 : Int32)), .val (.int (6 : Int32)), .val (.int (1 : Int32)), .val (.int c1)] [(.int (c1.toInt8.toInt32)), (.int (1 : Int32)), (.ref a2)])) rfl rfl (hb hby d5_6_31)
  have V4 : Arv Z h4 a2 k2 .byte (6 : Int32) [(.int (nar .byte (c0.toInt8.toInt32))), (.int (nar .byte (c1.toInt8.toInt32))), (.int (0 : Int32)), (.int (0 : Int32)), (.int (0 : Int32)), (.int (0 : Int32))] (.int (0 : Int32)) := Arv.set Ar4 qa4 Sa4 Na4 Ha4 Ga4 (fits_nar_byte _) W4 1 rfl (Nat.le_of_ble_eq_true rfl)
  have F4_88 := F2_39.other W4 (Nat.ne_of_lt lt12)
  have K4 : Keep h0 h4 [a2] := K2.wr W4 (Or.inl (List.mem_of_getElem? (i := 0) rfl))
  have Z4 : n0 ≤ h4.size := Nat.le_trans Z2 (Keep.of_wr W4).1
  have N4 := Fr.snoc X4 N2 g2
  refine Goes.via st4 ?_
  show Goes p e below (T4.setTop (mkF m 32 #[.val (.ref a1), .val (.int (1 : Int32)), .val (.ref a2), .val (.int (1 : Int32)), .val (.int (6 : Int32)), .val (.int (1 : Int32)), .val (.int c1)] [])) _
  refine Goes.via (fun t k => XS.iinc X4.here hx rfl (hb hby d5_6_32) rfl (l' := #[.val (.ref a1), .val (.int (2 : Int32)), .val (.ref a2), .val (.int (1 : Int32)), .val (.int (6 : Int32)), .val (.int (1 : Int32)), .val (.int c1)]) rfl k) ?_
  show Goes p e below (T4.setTop (mkF m 35 #[.val (.ref a1), .val (.int (2 : Int32)), .val (.ref a2), .val (.int (1 : Int32)), .val (.int (6 : Int32)), .val (.int (1 : Int32)), .val (.int c1)] [])) _
  refine Goes.via (fun t k => XS.iinc X4.here hx rfl (hb hby d5_6_35) rfl (l' := #[.val (.ref a1), .val (.int (2 : Int32)), .val (.ref a2), .val (.int (2 : Int32)), .val (.int (6 : Int32)), .val (.int (1 : Int32)), .val (.int c1)]) rfl k) ?_
  show Goes p e below (T4.setTop (mkF m 38 #[.val (.ref a1), .val (.int (2 : Int32)), .val (.ref a2), .val (.int (2 : Int32)), .val (.int (6 : Int32)), .val (.int (1 : Int32)), .val (.int c1)] [])) _
  refine Goes.via (fun t k => XS.iinc X4.here hx rfl (hb hby d5_6_38) rfl (l' := #[.val (.ref a1), .val (.int (2 : Int32)), .val (.ref a2), .val (.int (2 : Int32)), .val (.int (6 : Int32)), .val (.int (2 : Int32)), .val (.int c1)]) rfl k) ?_
  show Goes p e below (T4.setTop (mkF m 41 #[.val (.ref a1), .val (.int (2 : Int32)), .val (.ref a2), .val (.int (2 : Int32)), .val (.int (6 : Int32)), .val (.int (2 : Int32)), .val (.int c1)] [])) _
  refine Goes.via (fun t k => XS.goto X4.here hx rfl (pc0 := 41) (pc' := 3) rfl (hb hby d5_6_41) (by decide) (by decide) k) ?_
  show Goes p e below (T4.setTop (mkF m 3 #[.val (.ref a1), .val (.int (2 : Int32)), .val (.ref a2), .val (.int (2 : Int32)), .val (.int (6 : Int32)), .val (.int (2 : Int32)), .val (.int c1)] [])) _
  refine Goes.via (fun t k => XS.iload X4.here hx rfl (hb hby d5_6_3) rfl k) ?_
  show Goes p e below (T4.setTop (mkF m 5 #[.val (.ref a1), .val (.int (2 : Int32)), .val (.ref a2), .val (.int (2 : Int32)), .val (.int (6 : Int32)), .val (.int (2 : Int32)), .val (.int c1)] [(.int (2 : Int32))])) _
  refine Goes.via (fun t k => XS.iload X4.here hx rfl (hb hby d5_6_5) rfl k) ?_
  show Goes p e below (T4.setTop (mkF m 7 #[.val (.ref a1), .val (.int (2 : Int32)), .val (.ref a2), .val (.int (2 : Int32)), .val (.int (6 : Int32)), .val (.int (2 : Int32)), .val (.int c1)] [(.int (6 : Int32)), (.int (2 : Int32))])) _
  refine Goes.via (fun t k => XS.icmpNo X4.here hx rfl (hb hby d5_6_7) rfl (tlt (show (2 : Int32) < (6 : Int32) from (by decide))).2.1 k) ?_
  show Goes p e below (T4.setTop (mkF m 10 #[.val (.ref a1), .val (.int (2 : Int32)), .val (.ref a2), .val (.int (2 : Int32)), .val (.int (6 : Int32)), .val (.int (2 : Int32)), .val (.int c1)] [])) _
  refine Goes.via (fun t k => XS.aloadN X4.here hx rfl (hb hby d5_6_10) rfl rfl k) ?_
  show Goes p e below (T4.setTop (mkF m 11 #[.val (.ref a1), .val (.int (2 : Int32)), .val (.ref a2), .val (.int (2 : Int32)), .val (.int (6 : Int32)), .val (.int (2 : Int32)), .val (.int c1)] [(.ref a1)])) _
  refine Goes.via (fun t k => XS.iloadN X4.here hx rfl (hb hby d5_6_11) rfl k) ?_
  show Goes p e below (T4.setTop (mkF m 12 #[.val (.ref a1), .val (.int (2 : Int32)), .val (.ref a2), .val (.int (2 : Int32)), .val (.int (6 : Int32)), .val (.int (2 : Int32)), .val (.int c1)] [(.int (2 : Int32)), (.ref a1)])) _
  obtain ⟨cl5, Ar5, qa5, Sa5, Na5, Ha5, Ga5⟩ := id F4_88
  have hin5 : ¬ ((2 : Int32) < 0 ∨ cl5.slots.size ≤ ((2 : Int32)).toNatClampNeg) := inb_of Sa5 ⟨by decide, by decide⟩
  have hat5 : cl5.slots[((2 : Int32)).toNatClampNeg]? = some (.int c2) := Ha5.at hin5 rfl
  refine Goes.via (fun t k => X4.caload hx (j := (2 : Int32)) (v := (.int c2)) (by rw [e4]; exact Ar5.1) (State.isArrayOf_alike hZ.alike Ar5.2.1) Ar5.2.2 hin5 hat5 (g := (mkF m 12 #[.val (.ref a1), .val (.int (2 : Int32)), .val (.ref a2), .val (.int (2 : Int32)), .val (.int (6 : Int32)), .val (.int (2 : Int32)), .val (.int c1)] [(.int (2 : Int32)), (.ref a1)])) rfl rfl (hb hby d5_6_12) _ k) ?_
  show Goes p e below (T4.setTop (mkF m 13 #[.val (.ref a1), .val (.int (2 : Int32)), .val (.ref a2), .val (.int (2 : Int32)), .val (.int (6 : Int32)), .val (.int (2 : Int32)), .val (.int c1)] [(.int c2)])) _
  refine Goes.via (fun t k => XS.istore X4.here hx rfl (hb hby d5_6_13) rfl (l' := #[.val (.ref a1), .val (.int (2 : Int32)), .val (.ref a2), .val (.int (2 : Int32)), .val (.int (6 : Int32)), .val (.int (2 : Int32)), .val (.int c2)]) rfl k) ?_
  show Goes p e below (T4.setTop (mkF m 15 #[.val (.ref a1), .val (.int (2 : Int32)), .val (.ref a2), .val (.int (2 : Int32)), .val (.int (6 : Int32)), .val (.int (2 : Int32)), .val (.int c2)] [])) _
  refine Goes.via (fun t k => XS.iload X4.here hx rfl (hb hby d5_6_15) rfl k) ?_
  show Goes p e below (T4.setTop (mkF m 17 #[.val (.ref a1), .val (.int (2 : Int32)), .val (.ref a2), .val (.int (2 : Int32)), .val (.int (6 : Int32)), .val (.int (2 : Int32)), .val (.int c2)] [(.int c2)])) _
  refine Goes.via (fun t k => XS.sipush X4.here hx rfl (hb hby d5_6_17) k) ?_
  show Goes p e below (T4.setTop (mkF m 20 #[.val (.ref a1), .val (.int (2 : Int32)), .val (.ref a2), .val (.int (2 : Int32)), .val (.int (6 : Int32)), .val (.int (2 : Int32)), .val (.int c2)] [(.int (255 : Int32)), (.int c2)])) _
  refine Goes.via (fun t k => XS.icmpYes X4.here hx rfl (pc0 := 20) (pc' := 26) rfl (hb hby d5_6_20) rfl (flt hc2).2.2.2 (by decide) (by decide) k) ?_
  show Goes p e below (T4.setTop (mkF m 26 #[.val (.ref a1), .val (.int (2 : Int32)), .val (.ref a2), .val (.int (2 : Int32)), .val (.int (6 : Int32)), .val (.int (2 : Int32)), .val (.int c2)] [])) _
  refine Goes.via (fun t k => XS.aloadN X4.here hx rfl (hb hby d5_6_26) rfl rfl k) ?_
  show Goes p e below (T4.setTop (mkF m 27 #[.val (.ref a1), .val (.int (2 : Int32)), .val (.ref a2), .val (.int (2 : Int32)), .val (.int (6 : Int32)), .val (.int (2 : Int32)), .val (.int c2)] [(.ref a2)])) _
  refine Goes.via (fun t k => XS.iloadN X4.here hx rfl (hb hby d5_6_27) rfl k) ?_
  show Goes p e below (T4.setTop (mkF m 28 #[.val (.ref a1), .val (.int (2 : Int32)), .val (.ref a2), .val (.int (2 : Int32)), .val (.int (6 : Int32)), .val (.int (2 : Int32)), .val (.int c2)] [(.int (2 : Int32)), (.ref a2)])) _
  refine Goes.via (fun t k => XS.iload X4.here hx rfl (hb hby d5_6_28) rfl k) ?_
  show Goes p e below (T4.setTop (mkF m 30 #[.val (.ref a1), .val (.int (2 : Int32)), .val (.ref a2), .val (.int (2 : Int32)), .val (.int (6 : Int32)), .val (.int (2 : Int32)), .val (.int c2)] [(.int c2), (.int (2 : Int32)), (.ref a2)])) _
  refine Goes.via (fun t k => XS.i2b X4.here hx rfl (hb hby d5_6_30) rfl k) ?_
  show Goes p e below (T4.setTop (mkF m 31 #[.val (.ref a1), .val (.int (2 : Int32)), .val (.ref a2), .val (.int (2 : Int32)), .val (.int (6 : Int32)), .val (.int (2 : Int32)), .val (.int c2)] [(.int (c2.toInt8.toInt32)), (.int (2 : Int32)), (.ref a2)])) _
  obtain ⟨cl6, Ar6, qa6, Sa6, Na6, Ha6, Ga6⟩ := V4
  have hin6 : ¬ ((2 : Int32) < 0 ∨ cl6.slots.size ≤ ((2 : Int32)).toNatClampNeg) := inb_of Sa6 ⟨by decide, by decide⟩
  obtain ⟨T6, h6, X6, e6, W6, st6⟩ := stB X4 hx hZ e4 Ar6 (j := (2 : Int32)) hin6 (g := (mkF m 31 #[.val (.ref a1), .val (.int (2 : Int32)), .val (.ref a2), .val (.int (2 : Int32)), .val (.int (6 : Int32)), .val (.int (2 : Int32)), .val (.int c2)] [(.int (c2.toInt8.toInt32)), (.int (2 : Int32)), (.ref a2)])) rfl rfl (hb hby d5_6_31)
  have V6 : Arv Z h6 a2 k2 .byte (6 : Int32) [(.int (nar .byte (c0.toInt8.toInt32))), (.int (nar .byte (c1.toInt8.toInt32))), (.int (nar .byte (c2.toInt8.toInt32))), (.int (0 : Int32)), (.int (0 : Int32)), (.int (0 : Int32))] (.int (0 : Int32)) := Arv.set Ar6 qa6 Sa6 Na6 Ha6 Ga6 (fits_nar_byte _) W6 2 rfl (Nat.le_of_ble_eq_true rfl)
  have F6_137 := F4_88.other W6 (Nat.ne_of_lt lt12)
  have K6 : Keep h0 h6 [a2] := K4.wr W6 (Or.inl (List.mem_of_getElem? (i := 0) rfl))
  have Z6 : n0 ≤ h6.size := Nat.le_trans Z4 (Keep.of_wr W6).1
  have N6 := Fr.snoc X6 N4 g2
  refine Goes.via st6 ?_
  show Goes p e below (T6.setTop (mkF m 32 #[.val (.ref a1), .val (.int (2 : Int32)), .val (.ref a2), .val (.int (2 : Int32)), .val (.int (6 : Int32)), .val (.int (2 : Int32)), .val (.int c2)] [])) _
  refine Goes.via (fun t k => XS.iinc X6.here hx rfl (hb hby d5_6_32) rfl (l' := #[.val (.ref a1), .val (.int (3 : Int32)), .val (.ref a2), .val (.int (2 : Int32)), .val (.int (6 : Int32)), .val (.int (2 : Int32)), .val (.int c2)]) rfl k) ?_
  show Goes p e below (T6.setTop (mkF m 35 #[.val (.ref a1), .val (.int (3 : Int32)), .val (.ref a2), .val (.int (2 : Int32)), .val (.int (6 : Int32)), .val (.int (2 : Int32)), .val (.int c2)] [])) _
  refine Goes.via (fun t k => XS.iinc X6.here hx rfl (hb hby d5_6_35) rfl (l' := #[.val (.ref a1), .val (.int (3 : Int32)), .val (.ref a2), .val (.int (3 : Int32)), .val (.int (6 : Int32)), .val (.int (2 : Int32)), .val (.int c2)]) rfl k) ?_
  show Goes p e below (T6.setTop (mkF m 38 #[.val (.ref a1), .val (.int (3 : Int32)), .val (.ref a2), .val (.int (3 : Int32)), .val (.int (6 : Int32)), .val (.int (2 : Int32)), .val (.int c2)] [])) _
  refine Goes.via (fun t k => XS.iinc X6.here hx rfl (hb hby d5_6_38) rfl (l' := #[.val (.ref a1), .val (.int (3 : Int32)), .val (.ref a2), .val (.int (3 : Int32)), .val (.int (6 : Int32)), .val (.int (3 : Int32)), .val (.int c2)]) rfl k) ?_
  show Goes p e below (T6.setTop (mkF m 41 #[.val (.ref a1), .val (.int (3 : Int32)), .val (.ref a2), .val (.int (3 : Int32)), .val (.int (6 : Int32)), .val (.int (3 : Int32)), .val (.int c2)] [])) _
  refine Goes.via (fun t k => XS.goto X6.here hx rfl (pc0 := 41) (pc' := 3) rfl (hb hby d5_6_41) (by decide) (by decide) k) ?_
  show Goes p e below (T6.setTop (mkF m 3 #[.val (.ref a1), .val (.int (3 : Int32)), .val (.ref a2), .val (.int (3 : Int32)), .val (.int (6 : Int32)), .val (.int (3 : Int32)), .val (.int c2)] [])) _
  refine Goes.via (fun t k => XS.iload X6.here hx rfl (hb hby d5_6_3) rfl k) ?_
  show Goes p e below (T6.setTop (mkF m 5 #[.val (.ref a1), .val (.int (3 : Int32)), .val (.ref a2), .val (.int (3 : Int32)), .val (.int (6 : Int32)), .val (.int (3 : Int32)), .val (.int c2)] [(.int (3 : Int32))])) _
  refine Goes.via (fun t k => XS.iload X6.here hx rfl (hb hby d5_6_5) rfl k) ?_
  show Goes p e below (T6.setTop (mkF m 7 #[.val (.ref a1), .val (.int (3 : Int32)), .val (.ref a2), .val (.int (3 : Int32)), .val (.int (6 : Int32)), .val (.int (3 : Int32)), .val (.int c2)] [(.int (6 : Int32)), (.int (3 : Int32))])) _
  refine Goes.via (fun t k => XS.icmpNo X6.here hx rfl (hb hby d5_6_7) rfl (tlt (show (3 : Int32) < (6 : Int32) from (by decide))).2.1 k) ?_
  show Goes p e below (T6.setTop (mkF m 10 #[.val (.ref a1), .val (.int (3 : Int32)), .val (.ref a2), .val (.int (3 : Int32)), .val (.int (6 : Int32)), .val (.int (3 : Int32)), .val (.int c2)] [])) _
  refine Goes.via (fun t k => XS.aloadN X6.here hx rfl (hb hby d5_6_10) rfl rfl k) ?_
  show Goes p e below (T6.setTop (mkF m 11 #[.val (.ref a1), .val (.int (3 : Int32)), .val (.ref a2), .val (.int (3 : Int32)), .val (.int (6 : Int32)), .val (.int (3 : Int32)), .val (.int c2)] [(.ref a1)])) _
  refine Goes.via (fun t k => XS.iloadN X6.here hx rfl (hb hby d5_6_11) rfl k) ?_
  show Goes p e below (T6.setTop (mkF m 12 #[.val (.ref a1), .val (.int (3 : Int32)), .val (.ref a2), .val (.int (3 : Int32)), .val (.int (6 : Int32)), .val (.int (3 : Int32)), .val (.int c2)] [(.int (3 : Int32)), (.ref a1)])) _
  obtain ⟨cl7, Ar7, qa7, Sa7, Na7, Ha7, Ga7⟩ := id F6_137
  have hin7 : ¬ ((3 : Int32) < 0 ∨ cl7.slots.size ≤ ((3 : Int32)).toNatClampNeg) := inb_of Sa7 ⟨by decide, by decide⟩
  have hat7 : cl7.slots[((3 : Int32)).toNatClampNeg]? = some (.int c3) := Ha7.at hin7 rfl
  refine Goes.via (fun t k => X6.caload hx (j := (3 : Int32)) (v := (.int c3)) (by rw [e6]; exact Ar7.1) (State.isArrayOf_alike hZ.alike Ar7.2.1) Ar7.2.2 hin7 hat7 (g := (mkF m 12 #[.val (.ref a1), .val (.int (3 : Int32)), .val (.ref a2), .val (.int (3 : Int32)), .val (.int (6 : Int32)), .val (.int (3 : Int32)), .val (.int c2)] [(.int (3 : Int32)), (.ref a1)])) rfl rfl (hb hby d5_6_12) _ k) ?_
  show Goes p e below (T6.setTop (mkF m 13 #[.val (.ref a1), .val (.int (3 : Int32)), .val (.ref a2), .val (.int (3 : Int32)), .val (.int (6 : Int32)), .val (.int (3 : Int32)), .val (.int c2)] [(.int c3)])) _
  refine Goes.via (fun t k => XS.istore X6.here hx rfl (hb hby d5_6_13) rfl (l' := #[.val (.ref a1), .val (.int (3 : Int32)), .val (.ref a2), .val (.int (3 : Int32)), .val (.int (6 : Int32)), .val (.int (3 : Int32)), .val (.int c3)]) rfl k) ?_
  show Goes p e below (T6.setTop (mkF m 15 #[.val (.ref a1), .val (.int (3 : Int32)), .val (.ref a2), .val (.int (3 : Int32)), .val (.int (6 : Int32)), .val (.int (3 : Int32)), .val (.int c3)] [])) _
  refine Goes.via (fun t k => XS.iload X6.here hx rfl (hb hby d5_6_15) rfl k) ?_
  show Goes p e below (T6.setTop (mkF m 17 #[.val (.ref a1), .val (.int (3 : Int32)), .val (.ref a2), .val (.int (3 : Int32)), .val (.int (6 : Int32)), .val (.int (3 : Int32)), .val (.int c3)] [(.int c3)])) _
  refine Goes.via (fun t k => XS.sipush X6.here hx rfl (hb hby d5_6_17) k) ?_
  show Goes p e below (T6.setTop (mkF m 20 #[.val (.ref a1), .val (.int (3 : Int32)), .val (.ref a2), .val (.int (3 : Int32)), .val (.int (6 : Int32)), .val (.int (3 : Int32)), .val (.int c3)] [(.int (255 : Int32)), (.int c3)])) _
  refine Goes.via (fun t k => XS.icmpYes X6.here hx rfl (pc0 := 20) (pc' := 26) rfl (hb hby d5_6_20) rfl (flt hc3).2.2.2 (by decide) (by decide) k) ?_
  show Goes p e below (T6.setTop (mkF m 26 #[.val (.ref a1), .val (.int (3 : Int32)), .val (.ref a2), .val (.int (3 : Int32)), .val (.int (6 : Int32)), .val (.int (3 : Int32)), .val (.int c3)] [])) _
  refine Goes.via (fun t k => XS.aloadN X6.here hx rfl (hb hby d5_6_26) rfl rfl k) ?_
  show Goes p e below (T6.setTop (mkF m 27 #[.val (.ref a1), .val (.int (3 : Int32)), .val (.ref a2), .val (.int (3 : Int32)), .val (.int (6 : Int32)), .val (.int (3 : Int32)), .val (.int c3)] [(.ref a2)])) _
  refine Goes.via (fun t k => XS.iloadN X6.here hx rfl (hb hby d5_6_27) rfl k) ?_
  show Goes p e below (T6.setTop (mkF m 28 #[.val (.ref a1), .val (.int (3 : Int32)), .val (.ref a2), .val (.int (3 : Int32)), .val (.int (6 : Int32)), .val (.int (3 : Int32)), .val (.int c3)] [(.int (3 : Int32)), (.ref a2)])) _
  refine Goes.via (fun t k => XS.iload X6.here hx rfl (hb hby d5_6_28) rfl k) ?_
  show Goes p e below (T6.setTop (mkF m 30 #[.val (.ref a1), .val (.int (3 : Int32)), .val (.ref a2), .val (.int (3 : Int32)), .val (.int (6 : Int32)), .val (.int (3 : Int32)), .val (.int c3)] [(.int c3), (.int (3 : Int32)), (.ref a2)])) _
  refine Goes.via (fun t k => XS.i2b X6.here hx rfl (hb hby d5_6_30) rfl k) ?_
  show Goes p e below (T6.setTop (mkF m 31 #[.val (.ref a1), .val (.int (3 : Int32)), .val (.ref a2), .val (.int (3 : Int32)), .val (.int (6 : Int32)), .val (.int (3 : Int32)), .val (.int c3)] [(.int (c3.toInt8.toInt32)), (.int (3 : Int32)), (.ref a2)])) _
  obtain ⟨cl8, Ar8, qa8, Sa8, Na8, Ha8, Ga8⟩ := V6
  have hin8 : ¬ ((3 : Int32) < 0 ∨ cl8.slots.size ≤ ((3 : Int32)).toNatClampNeg) := inb_of Sa8 ⟨by decide, by decide⟩
  obtain ⟨T8, h8, X8, e8, W8, st8⟩ := stB X6 hx hZ e6 Ar8 (j := (3 : Int32)) hin8 (g := (mkF m 31 #[.val (.ref a1), .val (.int (3 : Int32)), .val (.ref a2), .val (.int (3 : Int32)), .val (.int (6 : Int32)), .val (.int (3 : Int32)), .val (.int c3)] [(.int (c3.toInt8.toInt32)), (.int (3 : Int32)), (.ref a2)])) rfl rfl (hb hby d5_6_31)
  have V8 : Arv Z h8 a2 k2 .byte (6 : Int32) [(.int (nar .byte (c0.toInt8.toInt32))), (.int (nar .byte (c1.toInt8.toInt32))), (.int (nar .byte (c2.toInt8.toInt32))), (.int (nar .byte (c3.toInt8.toInt32))), (.int (0 : Int32)), (.int (0 : Int32))] (.int (0 : Int32)) := Arv.set Ar8 qa8 Sa8 Na8 Ha8 Ga8 (fits_nar_byte _) W8 3 rfl (Nat.le_of_ble_eq_true rfl)
  have F8_186 := F6_137.other W8 (Nat.ne_of_lt lt12)
  have K8 : Keep h0 h8 [a2] := K6.wr W8 (Or.inl (List.mem_of_getElem? (i := 0) rfl))
  have Z8 : n0 ≤ h8.size := Nat.le_trans Z6 (Keep.of_wr W8).1
  have N8 := Fr.snoc X8 N6 g2
  refine Goes.via st8 ?_
  show Goes p e below (T8.setTop (mkF m 32 #[.val (.ref a1), .val (.int (3 : Int32)), .val (.ref a2), .val (.int (3 : Int32)), .val (.int (6 : Int32)), .val (.int (3 : Int32)), .val (.int c3)] [])) _
  refine Goes.via (fun t k => XS.iinc X8.here hx rfl (hb hby d5_6_32) rfl (l' := #[.val (.ref a1), .val (.int (4 : Int32)), .val (.ref a2), .val (.int (3 : Int32)), .val (.int (6 : Int32)), .val (.int (3 : Int32)), .val (.int c3)]) rfl k) ?_
  show Goes p e below (T8.setTop (mkF m 35 #[.val (.ref a1), .val (.int (4 : Int32)), .val (.ref a2), .val (.int (3 : Int32)), .val (.int (6 : Int32)), .val (.int (3 : Int32)), .val (.int c3)] [])) _
  refine Goes.via (fun t k => XS.iinc X8.here hx rfl (hb hby d5_6_35) rfl (l' := #[.val (.ref a1), .val (.int (4 : Int32)), .val (.ref a2), .val (.int (4 : Int32)), .val (.int (6 : Int32)), .val (.int (3 : Int32)), .val (.int c3)]) rfl k) ?_
  show Goes p e below (T8.setTop (mkF m 38 #[.val (.ref a1), .val (.int (4 : Int32)), .val (.ref a2), .val (.int (4 : Int32)), .val (.int (6 : Int32)), .val (.int (3 : Int32)), .val (.int c3)] [])) _
  refine Goes.via (fun t k => XS.iinc X8.here hx rfl (hb hby d5_6_38) rfl (l' := #[.val (.ref a1), .val (.int (4 : Int32)), .val (.ref a2), .val (.int (4 : Int32)), .val (.int (6 : Int32)), .val (.int (4 : Int32)), .val (.int c3)]) rfl k) ?_
  show Goes p e below (T8.setTop (mkF m 41 #[.val (.ref a1), .val (.int (4 : Int32)), .val (.ref a2), .val (.int (4 : Int32)), .val (.int (6 : Int32)), .val (.int (4 : Int32)), .val (.int c3)] [])) _
  refine Goes.via (fun t k => XS.goto X8.here hx rfl (pc0 := 41) (pc' := 3) rfl (hb hby d5_6_41) (by decide) (by decide) k) ?_
  show Goes p e below (T8.setTop (mkF m 3 #[.val (.ref a1), .val (.int (4 : Int32)), .val (.ref a2), .val (.int (4 : Int32)), .val (.int (6 : Int32)), .val (.int (4 : Int32)), .val (.int c3)] [])) _
  refine Goes.via (fun t k => XS.iload X8.here hx rfl (hb hby d5_6_3) rfl k) ?_
  show Goes p e below (T8.setTop (mkF m 5 #[.val (.ref a1), .val (.int (4 : Int32)), .val (.ref a2), .val (.int (4 : Int32)), .val (.int (6 : Int32)), .val (.int (4 : Int32)), .val (.int c3)] [(.int (4 : Int32))])) _
  refine Goes.via (fun t k => XS.iload X8.here hx rfl (hb hby d5_6_5) rfl k) ?_
  show Goes p e below (T8.setTop (mkF m 7 #[.val (.ref a1), .val (.int (4 : Int32)), .val (.ref a2), .val (.int (4 : Int32)), .val (.int (6 : Int32)), .val (.int (4 : Int32)), .val (.int c3)] [(.int (6 : Int32)), (.int (4 : Int32))])) _
  refine Goes.via (fun t k => XS.icmpNo X8.here hx rfl (hb hby d5_6_7) rfl (tlt (show (4 : Int32) < (6 : Int32) from (by decide))).2.1 k) ?_
  show Goes p e below (T8.setTop (mkF m 10 #[.val (.ref a1), .val (.int (4 : Int32)), .val (.ref a2), .val (.int (4 : Int32)), .val (.int (6 : Int32)), .val (.int (4 : Int32)), .val (.int c3)] [])) _
  refine Goes.via (fun t k => XS.aloadN X8.here hx rfl (hb hby d5_6_10) rfl rfl k) ?_
  show Goes p e below (T8.setTop (mkF m 11 #[.val (.ref a1), .val (.int (4 : Int32)), .val (.ref a2), .val (.int (4 : Int32)), .val (.int (6 : Int32)), .val (.int (4 : Int32)), .val (.int c3)] [(.ref a1)])) _
  refine Goes.via (fun t k => XS.iloadN X8.here hx rfl (hb hby d5_6_11) rfl k) ?_
  show Goes p e below (T8.setTop (mkF m 12 #[.val (.ref a1), .val (.int (4 : Int32)), .val (.ref a2), .val (.int (4 : Int32)), .val (.int (6 : Int32)), .val (.int (4 : Int32)), .val (.int c3)] [(.int (4 : Int32)), (.ref a1)])) _
  obtain ⟨cl9, Ar9, qa9, Sa9, Na9, Ha9, Ga9⟩ := id F8_186
  have hin9 : ¬ ((4 : Int32) < 0 ∨ cl9.slots.size ≤ ((4 : Int32)).toNatClampNeg) := inb_of Sa9 ⟨by decide, by decide⟩
  have hat9 : cl9.slots[((4 : Int32)).toNatClampNeg]? = some (.int c4) := Ha9.at hin9 rfl
  refine Goes.via (fun t k => X8.caload hx (j := (4 : Int32)) (v := (.int c4)) (by rw [e8]; exact Ar9.1) (State.isArrayOf_alike hZ.alike Ar9.2.1) Ar9.2.2 hin9 hat9 (g := (mkF m 12 #[.val (.ref a1), .val (.int (4 : Int32)), .val (.ref a2), .val (.int (4 : Int32)), .val (.int (6 : Int32)), .val (.int (4 : Int32)), .val (.int c3)] [(.int (4 : Int32)), (.ref a1)])) rfl rfl (hb hby d5_6_12) _ k) ?_
  show Goes p e below (T8.setTop (mkF m 13 #[.val (.ref a1), .val (.int (4 : Int32)), .val (.ref a2), .val (.int (4 : Int32)), .val (.int (6 : Int32)), .val (.int (4 : Int32)), .val (.int c3)] [(.int c4)])) _
  refine Goes.via (fun t k => XS.istore X8.here hx rfl (hb hby d5_6_13) rfl (l' := #[.val (.ref a1), .val (.int (4 : Int32)), .val (.ref a2), .val (.int (4 : Int32)), .val (.int (6 : Int32)), .val (.int (4 : Int32)), .val (.int c4)]) rfl k) ?_
  show Goes p e below (T8.setTop (mkF m 15 #[.val (.ref a1), .val (.int (4 : Int32)), .val (.ref a2), .val (.int (4 : Int32)), .val (.int (6 : Int32)), .val (.int (4 : Int32)), .val (.int c4)] [])) _
  refine Goes.via (fun t k => XS.iload X8.here hx rfl (hb hby d5_6_15) rfl k) ?_
  show Goes p e below (T8.setTop (mkF m 17 #[.val (.ref a1), .val (.int (4 : Int32)), .val (.ref a2), .val (.int (4 : Int32)), .val (.int (6 : Int32)), .val (.int (4 : Int32)), .val (.int c4)] [(.int c4)])) _
  refine Goes.via (fun t k => XS.sipush X8.here hx rfl (hb hby d5_6_17) k) ?_
  show Goes p e below (T8.setTop (mkF m 20 #[.val (.ref a1), .val (.int (4 : Int32)), .val (.ref a2), .val (.int (4 : Int32)), .val (.int (6 : Int32)), .val (.int (4 : Int32)), .val (.int c4)] [(.int (255 : Int32)), (.int c4)])) _
  refine Goes.via (fun t k => XS.icmpYes X8.here hx rfl (pc0 := 20) (pc' := 26) rfl (hb hby d5_6_20) rfl (flt hc4).2.2.2 (by decide) (by decide) k) ?_
  show Goes p e below (T8.setTop (mkF m 26 #[.val (.ref a1), .val (.int (4 : Int32)), .val (.ref a2), .val (.int (4 : Int32)), .val (.int (6 : Int32)), .val (.int (4 : Int32)), .val (.int c4)] [])) _
  refine Goes.via (fun t k => XS.aloadN X8.here hx rfl (hb hby d5_6_26) rfl rfl k) ?_
  show Goes p e below (T8.setTop (mkF m 27 #[.val (.ref a1), .val (.int (4 : Int32)), .val (.ref a2), .val (.int (4 : Int32)), .val (.int (6 : Int32)), .val (.int (4 : Int32)), .val (.int c4)] [(.ref a2)])) _
  refine Goes.via (fun t k => XS.iloadN X8.here hx rfl (hb hby d5_6_27) rfl k) ?_
  show Goes p e below (T8.setTop (mkF m 28 #[.val (.ref a1), .val (.int (4 : Int32)), .val (.ref a2), .val (.int (4 : Int32)), .val (.int (6 : Int32)), .val (.int (4 : Int32)), .val (.int c4)] [(.int (4 : Int32)), (.ref a2)])) _
  refine Goes.via (fun t k => XS.iload X8.here hx rfl (hb hby d5_6_28) rfl k) ?_
  show Goes p e below (T8.setTop (mkF m 30 #[.val (.ref a1), .val (.int (4 : Int32)), .val (.ref a2), .val (.int (4 : Int32)), .val (.int (6 : Int32)), .val (.int (4 : Int32)), .val (.int c4)] [(.int c4), (.int (4 : Int32)), (.ref a2)])) _
  refine Goes.via (fun t k => XS.i2b X8.here hx rfl (hb hby d5_6_30) rfl k) ?_
  show Goes p e below (T8.setTop (mkF m 31 #[.val (.ref a1), .val (.int (4 : Int32)), .val (.ref a2), .val (.int (4 : Int32)), .val (.int (6 : Int32)), .val (.int (4 : Int32)), .val (.int c4)] [(.int (c4.toInt8.toInt32)), (.int (4 : Int32)), (.ref a2)])) _
  obtain ⟨cl10, Ar10, qa10, Sa10, Na10, Ha10, Ga10⟩ := V8
  have hin10 : ¬ ((4 : Int32) < 0 ∨ cl10.slots.size ≤ ((4 : Int32)).toNatClampNeg) := inb_of Sa10 ⟨by decide, by decide⟩
  obtain ⟨T10, h10, X10, e10, W10, st10⟩ := stB X8 hx hZ e8 Ar10 (j := (4 : Int32)) hin10 (g := (mkF m 31 #[.val (.ref a1), .val (.int (4 : Int32)), .val (.ref a2), .val (.int (4 : Int32)), .val (.int (6 : Int32)), .val (.int (4 : Int32)), .val (.int c4)] [(.int (c4.toInt8.toInt32)), (.int (4 : Int32)), (.ref a2)])) rfl rfl (hb hby d5_6_31)
  have V10 : Arv Z h10 a2 k2 .byte (6 : Int32) [(.int (nar .byte (c0.toInt8.toInt32))), (.int (nar .byte (c1.toInt8.toInt32))), (.int (nar .byte (c2.toInt8.toInt32))), (.int (nar .byte (c3.toInt8.toInt32))), (.int (nar .byte (c4.toInt8.toInt32))), (.int (0 : Int32))] (.int (0 : Int32)) := Arv.set Ar10 qa10 Sa10 Na10 Ha10 Ga10 (fits_nar_byte _) W10 4 rfl (Nat.le_of_ble_eq_true rfl)
  have F10_235 := F8_186.other W10 (Nat.ne_of_lt lt12)
  have K10 : Keep h0 h10 [a2] := K8.wr W10 (Or.inl (List.mem_of_getElem? (i := 0) rfl))
  have Z10 : n0 ≤ h10.size := Nat.le_trans Z8 (Keep.of_wr W10).1
  have N10 := Fr.snoc X10 N8 g2
  refine Goes.via st10 ?_
  show Goes p e below (T10.setTop (mkF m 32 #[.val (.ref a1), .val (.int (4 : Int32)), .val (.ref a2), .val (.int (4 : Int32)), .val (.int (6 : Int32)), .val (.int (4 : Int32)), .val (.int c4)] [])) _
  refine Goes.via (fun t k => XS.iinc X10.here hx rfl (hb hby d5_6_32) rfl (l' := #[.val (.ref a1), .val (.int (5 : Int32)), .val (.ref a2), .val (.int (4 : Int32)), .val (.int (6 : Int32)), .val (.int (4 : Int32)), .val (.int c4)]) rfl k) ?_
  show Goes p e below (T10.setTop (mkF m 35 #[.val (.ref a1), .val (.int (5 : Int32)), .val (.ref a2), .val (.int (4 : Int32)), .val (.int (6 : Int32)), .val (.int (4 : Int32)), .val (.int c4)] [])) _
  refine Goes.via (fun t k => XS.iinc X10.here hx rfl (hb hby d5_6_35) rfl (l' := #[.val (.ref a1), .val (.int (5 : Int32)), .val (.ref a2), .val (.int (5 : Int32)), .val (.int (6 : Int32)), .val (.int (4 : Int32)), .val (.int c4)]) rfl k) ?_
  show Goes p e below (T10.setTop (mkF m 38 #[.val (.ref a1), .val (.int (5 : Int32)), .val (.ref a2), .val (.int (5 : Int32)), .val (.int (6 : Int32)), .val (.int (4 : Int32)), .val (.int c4)] [])) _
  refine Goes.via (fun t k => XS.iinc X10.here hx rfl (hb hby d5_6_38) rfl (l' := #[.val (.ref a1), .val (.int (5 : Int32)), .val (.ref a2), .val (.int (5 : Int32)), .val (.int (6 : Int32)), .val (.int (5 : Int32)), .val (.int c4)]) rfl k) ?_
  show Goes p e below (T10.setTop (mkF m 41 #[.val (.ref a1), .val (.int (5 : Int32)), .val (.ref a2), .val (.int (5 : Int32)), .val (.int (6 : Int32)), .val (.int (5 : Int32)), .val (.int c4)] [])) _
  refine Goes.via (fun t k => XS.goto X10.here hx rfl (pc0 := 41) (pc' := 3) rfl (hb hby d5_6_41) (by decide) (by decide) k) ?_
  show Goes p e below (T10.setTop (mkF m 3 #[.val (.ref a1), .val (.int (5 : Int32)), .val (.ref a2), .val (.int (5 : Int32)), .val (.int (6 : Int32)), .val (.int (5 : Int32)), .val (.int c4)] [])) _
  refine Goes.via (fun t k => XS.iload X10.here hx rfl (hb hby d5_6_3) rfl k) ?_
  show Goes p e below (T10.setTop (mkF m 5 #[.val (.ref a1), .val (.int (5 : Int32)), .val (.ref a2), .val (.int (5 : Int32)), .val (.int (6 : Int32)), .val (.int (5 : Int32)), .val (.int c4)] [(.int (5 : Int32))])) _
  refine Goes.via (fun t k => XS.iload X10.here hx rfl (hb hby d5_6_5) rfl k) ?_
  show Goes p e below (T10.setTop (mkF m 7 #[.val (.ref a1), .val (.int (5 : Int32)), .val (.ref a2), .val (.int (5 : Int32)), .val (.int (6 : Int32)), .val (.int (5 : Int32)), .val (.int c4)] [(.int (6 : Int32)), (.int (5 : Int32))])) _
  refine Goes.via (fun t k => XS.icmpNo X10.here hx rfl (hb hby d5_6_7) rfl (tlt (show (5 : Int32) < (6 : Int32) from (by decide))).2.1 k) ?_
  show Goes p e below (T10.setTop (mkF m 10 #[.val (.ref a1), .val (.int (5 : Int32)), .val (.ref a2), .val (.int (5 : Int32)), .val (.int (6 : Int32)), .val (.int (5 : Int32)), .val (.int c4)] [])) _
  refine Goes.via (fun t k => XS.aloadN X10.here hx rfl (hb hby d5_6_10) rfl rfl k) ?_
  show Goes p e below (T10.setTop (mkF m 11 #[.val (.ref a1), .val (.int (5 : Int32)), .val (.ref a2), .val (.int (5 : Int32)), .val (.int (6 : Int32)), .val (.int (5 : Int32)), .val (.int c4)] [(.ref a1)])) _
  refine Goes.via (fun t k => XS.iloadN X10.here hx rfl (hb hby d5_6_11) rfl k) ?_
  show Goes p e below (T10.setTop (mkF m 12 #[.val (.ref a1), .val (.int (5 : Int32)), .val (.ref a2), .val (.int (5 : Int32)), .val (.int (6 : Int32)), .val (.int (5 : Int32)), .val (.int c4)] [(.int (5 : Int32)), (.ref a1)])) _
  obtain ⟨cl11, Ar11, qa11, Sa11, Na11, Ha11, Ga11⟩ := id F10_235
  have hin11 : ¬ ((5 : Int32) < 0 ∨ cl11.slots.size ≤ ((5 : Int32)).toNatClampNeg) := inb_of Sa11 ⟨by decide, by decide⟩
  have hat11 : cl11.slots[((5 : Int32)).toNatClampNeg]? = some (.int c5) := Ha11.at hin11 rfl
  refine Goes.via (fun t k => X10.caload hx (j := (5 : Int32)) (v := (.int c5)) (by rw [e10]; exact Ar11.1) (State.isArrayOf_alike hZ.alike Ar11.2.1) Ar11.2.2 hin11 hat11 (g := (mkF m 12 #[.val (.ref a1), .val (.int (5 : Int32)), .val (.ref a2), .val (.int (5 : Int32)), .val (.int (6 : Int32)), .val (.int (5 : Int32)), .val (.int c4)] [(.int (5 : Int32)), (.ref a1)])) rfl rfl (hb hby d5_6_12) _ k) ?_
  show Goes p e below (T10.setTop (mkF m 13 #[.val (.ref a1), .val (.int (5 : Int32)), .val (.ref a2), .val (.int (5 : Int32)), .val (.int (6 : Int32)), .val (.int (5 : Int32)), .val (.int c4)] [(.int c5)])) _
  refine Goes.via (fun t k => XS.istore X10.here hx rfl (hb hby d5_6_13) rfl (l' := #[.val (.ref a1), .val (.int (5 : Int32)), .val (.ref a2), .val (.int (5 : Int32)), .val (.int (6 : Int32)), .val (.int (5 : Int32)), .val (.int c5)]) rfl k) ?_
  show Goes p e below (T10.setTop (mkF m 15 #[.val (.ref a1), .val (.int (5 : Int32)), .val (.ref a2), .val (.int (5 : Int32)), .val (.int (6 : Int32)), .val (.int (5 : Int32)), .val (.int c5)] [])) _
  refine Goes.via (fun t k => XS.iload X10.here hx rfl (hb hby d5_6_15) rfl k) ?_
  show Goes p e below (T10.setTop (mkF m 17 #[.val (.ref a1), .val (.int (5 : Int32)), .val (.ref a2), .val (.int (5 : Int32)), .val (.int (6 : Int32)), .val (.int (5 : Int32)), .val (.int c5)] [(.int c5)])) _
  refine Goes.via (fun t k => XS.sipush X10.here hx rfl (hb hby d5_6_17) k) ?_
  show Goes p e below (T10.setTop (mkF m 20 #[.val (.ref a1), .val (.int (5 : Int32)), .val (.ref a2), .val (.int (5 : Int32)), .val (.int (6 : Int32)), .val (.int (5 : Int32)), .val (.int c5)] [(.int (255 : Int32)), (.int c5)])) _
  refine Goes.via (fun t k => XS.icmpYes X10.here hx rfl (pc0 := 20) (pc' := 26) rfl (hb hby d5_6_20) rfl (flt hc5).2.2.2 (by decide) (by decide) k) ?_
  show Goes p e below (T10.setTop (mkF m 26 #[.val (.ref a1), .val (.int (5 : Int32)), .val (.ref a2), .val (.int (5 : Int32)), .val (.int (6 : Int32)), .val (.int (5 : Int32)), .val (.int c5)] [])) _
  refine Goes.via (fun t k => XS.aloadN X10.here hx rfl (hb hby d5_6_26) rfl rfl k) ?_
  show Goes p e below (T10.setTop (mkF m 27 #[.val (.ref a1), .val (.int (5 : Int32)), .val (.ref a2), .val (.int (5 : Int32)), .val (.int (6 : Int32)), .val (.int (5 : Int32)), .val (.int c5)] [(.ref a2)])) _
  refine Goes.via (fun t k => XS.iloadN X10.here hx rfl (hb hby d5_6_27) rfl k) ?_
  show Goes p e below (T10.setTop (mkF m 28 #[.val (.ref a1), .val (.int (5 : Int32)), .val (.ref a2), .val (.int (5 : Int32)), .val (.int (6 : Int32)), .val (.int (5 : Int32)), .val (.int c5)] [(.int (5 : Int32)), (.ref a2)])) _
  refine Goes.via (fun t k => XS.iload X10.here hx rfl (hb hby d5_6_28) rfl k) ?_
  show Goes p e below (T10.setTop (mkF m 30 #[.val (.ref a1), .val (.int (5 : Int32)), .val (.ref a2), .val (.int (5 : Int32)), .val (.int (6 : Int32)), .val (.int (5 : Int32)), .val (.int c5)] [(.int c5), (.int (5 : Int32)), (.ref a2)])) _
  refine Goes.via (fun t k => XS.i2b X10.here hx rfl (hb hby d5_6_30) rfl k) ?_
  show Goes p e below (T10.setTop (mkF m 31 #[.val (.ref a1), .val (.int (5 : Int32)), .val (.ref a2), .val (.int (5 : Int32)), .val (.int (6 : Int32)), .val (.int (5 : Int32)), .val (.int c5)] [(.int (c5.toInt8.toInt32)), (.int (5 : Int32)), (.ref a2)])) _
  obtain ⟨cl12, Ar12, qa12, Sa12, Na12, Ha12, Ga12⟩ := V10
  have hin12 : ¬ ((5 : Int32) < 0 ∨ cl12.slots.size ≤ ((5 : Int32)).toNatClampNeg) := inb_of Sa12 ⟨by decide, by decide⟩
  obtain ⟨T12, h12, X12, e12, W12, st12⟩ := stB X10 hx hZ e10 Ar12 (j := (5 : Int32)) hin12 (g := (mkF m 31 #[.val (.ref a1), .val (.int (5 : Int32)), .val (.ref a2), .val (.int (5 : Int32)), .val (.int (6 : Int32)), .val (.int (5 : Int32)), .val (.int c5)] [(.int (c5.toInt8.toInt32)), (.int (5 : Int32)), (.ref a2)])) rfl rfl (hb hby d5_6_31)
  have V12 : Arv Z h12 a2 k2 .byte (6 : Int32) [(.int (nar .byte (c0.toInt8.toInt32))), (.int (nar .byte (c1.toInt8.toInt32))), (.int (nar .byte (c2.toInt8.toInt32))), (.int (nar .byte (c3.toInt8.toInt32))), (.int (nar .byte (c4.toInt8.toInt32))), (.int (nar .byte (c5.toInt8.toInt32)))] (.int (0 : Int32)) := Arv.set Ar12 qa12 Sa12 Na12 Ha12 Ga12 (fits_nar_byte _) W12 5 rfl (Nat.le_of_ble_eq_true rfl)
  have F12_284 := F10_235.other W12 (Nat.ne_of_lt lt12)
  have K12 : Keep h0 h12 [a2] := K10.wr W12 (Or.inl (List.mem_of_getElem? (i := 0) rfl))
  have Z12 : n0 ≤ h12.size := Nat.le_trans Z10 (Keep.of_wr W12).1
  have N12 := Fr.snoc X12 N10 g2
  refine Goes.via st12 ?_
  show Goes p e below (T12.setTop (mkF m 32 #[.val (.ref a1), .val (.int (5 : Int32)), .val (.ref a2), .val (.int (5 : Int32)), .val (.int (6 : Int32)), .val (.int (5 : Int32)), .val (.int c5)] [])) _
  refine Goes.via (fun t k => XS.iinc X12.here hx rfl (hb hby d5_6_32) rfl (l' := #[.val (.ref a1), .val (.int (6 : Int32)), .val (.ref a2), .val (.int (5 : Int32)), .val (.int (6 : Int32)), .val (.int (5 : Int32)), .val (.int c5)]) rfl k) ?_
  show Goes p e below (T12.setTop (mkF m 35 #[.val (.ref a1), .val (.int (6 : Int32)), .val (.ref a2), .val (.int (5 : Int32)), .val (.int (6 : Int32)), .val (.int (5 : Int32)), .val (.int c5)] [])) _
  refine Goes.via (fun t k => XS.iinc X12.here hx rfl (hb hby d5_6_35) rfl (l' := #[.val (.ref a1), .val (.int (6 : Int32)), .val (.ref a2), .val (.int (6 : Int32)), .val (.int (6 : Int32)), .val (.int (5 : Int32)), .val (.int c5)]) rfl k) ?_
  show Goes p e below (T12.setTop (mkF m 38 #[.val (.ref a1), .val (.int (6 : Int32)), .val (.ref a2), .val (.int (6 : Int32)), .val (.int (6 : Int32)), .val (.int (5 : Int32)), .val (.int c5)] [])) _
  refine Goes.via (fun t k => XS.iinc X12.here hx rfl (hb hby d5_6_38) rfl (l' := #[.val (.ref a1), .val (.int (6 : Int32)), .val (.ref a2), .val (.int (6 : Int32)), .val (.int (6 : Int32)), .val (.int (6 : Int32)), .val (.int c5)]) rfl k) ?_
  show Goes p e below (T12.setTop (mkF m 41 #[.val (.ref a1), .val (.int (6 : Int32)), .val (.ref a2), .val (.int (6 : Int32)), .val (.int (6 : Int32)), .val (.int (6 : Int32)), .val (.int c5)] [])) _
  refine Goes.via (fun t k => XS.goto X12.here hx rfl (pc0 := 41) (pc' := 3) rfl (hb hby d5_6_41) (by decide) (by decide) k) ?_
  show Goes p e below (T12.setTop (mkF m 3 #[.val (.ref a1), .val (.int (6 : Int32)), .val (.ref a2), .val (.int (6 : Int32)), .val (.int (6 : Int32)), .val (.int (6 : Int32)), .val (.int c5)] [])) _
  refine Goes.via (fun t k => XS.iload X12.here hx rfl (hb hby d5_6_3) rfl k) ?_
  show Goes p e below (T12.setTop (mkF m 5 #[.val (.ref a1), .val (.int (6 : Int32)), .val (.ref a2), .val (.int (6 : Int32)), .val (.int (6 : Int32)), .val (.int (6 : Int32)), .val (.int c5)] [(.int (6 : Int32))])) _
  refine Goes.via (fun t k => XS.iload X12.here hx rfl (hb hby d5_6_5) rfl k) ?_
  show Goes p e below (T12.setTop (mkF m 7 #[.val (.ref a1), .val (.int (6 : Int32)), .val (.ref a2), .val (.int (6 : Int32)), .val (.int (6 : Int32)), .val (.int (6 : Int32)), .val (.int c5)] [(.int (6 : Int32)), (.int (6 : Int32))])) _
  refine Goes.via (fun t k => XS.icmpYes X12.here hx rfl (pc0 := 7) (pc' := 44) rfl (hb hby d5_6_7) rfl (flt (show ¬ ((6 : Int32) < (6 : Int32)) from (by decide))).2.1 (by decide) (by decide) k) ?_
  show Goes p e below (T12.setTop (mkF m 44 #[.val (.ref a1), .val (.int (6 : Int32)), .val (.ref a2), .val (.int (6 : Int32)), .val (.int (6 : Int32)), .val (.int (6 : Int32)), .val (.int c5)] [])) _
  refine Goes.via (fun t k => XS.iload X12.here hx rfl (hb hby d5_6_44) rfl k) ?_
  show Goes p e below (T12.setTop (mkF m 46 #[.val (.ref a1), .val (.int (6 : Int32)), .val (.ref a2), .val (.int (6 : Int32)), .val (.int (6 : Int32)), .val (.int (6 : Int32)), .val (.int c5)] [(.int (6 : Int32))])) _
  obtain ⟨fs, hr, hrun, hended, hW, hsame⟩ := X12.leave (v := some (.int (6 : Int32))) (fun h => by rw [Bd.returns] at h; cases h)
  refine ⟨_, _, ?_, hrun, hended, _, _, rfl, ?_, ⟨_, rfl⟩, hW, hsame.mono (by decide) (by decide)⟩
  · exact retI X12 hx Bd.returns (hb hby d5_6_46) hr
  · show Q5_6 Z a2 k2 c0 c1 c2 c3 c4 c5 h0 n0 _ T12.heap _
    rw [e12]
    exact ⟨rfl, N12, K12, V12⟩
theorem d4_6_0 : decode jdk_52_method_16_code 0 = .ok (.iload_n 2, 1) := by decide +kernel
theorem d4_6_1 : decode jdk_52_method_16_code 1 = .ok (.newarray .byte, 2) := by decide +kernel
theorem d4_6_3 : decode jdk_52_method_16_code 3 = .ok (.astore_n 3, 1) := by decide +kernel
theorem d4_6_4 : decode jdk_52_method_16_code 4 = .ok (.aload_n 0, 1) := by decide +kernel
theorem d4_6_5 : decode jdk_52_method_16_code 5 = .ok (.iload_n 1, 1) := by decide +kernel
theorem d4_6_6 : decode jdk_52_method_16_code 6 = .ok (.aload_n 3, 1) := by decide +kernel
theorem d4_6_7 : decode jdk_52_method_16_code 7 = .ok (.iconst 0, 1) := by decide +kernel
theorem d4_6_8 : decode jdk_52_method_16_code 8 = .ok (.iload_n 2, 1) := by decide +kernel
theorem d4_6_9 : decode jdk_52_method_16_code 9 = .ok (.invokestatic 115, 3) := by decide +kernel
theorem d4_6_12 : decode jdk_52_method_16_code 12 = .ok (.istore 4, 2) := by decide +kernel
theorem d4_6_14 : decode jdk_52_method_16_code 14 = .ok (.iload 4, 2) := by decide +kernel
theorem d4_6_16 : decode jdk_52_method_16_code 16 = .ok (.iload_n 2, 1) := by decide +kernel
theorem d4_6_17 : decode jdk_52_method_16_code 17 = .ok (.if_icmp .eq 40, 3) := by decide +kernel
theorem d4_6_57 : decode jdk_52_method_16_code 57 = .ok (.aload_n 3, 1) := by decide +kernel
theorem d4_6_58 : decode jdk_52_method_16_code 58 = .ok (.areturn, 1) := by decide +kernel
theorem pn_4_6 : plainName "java/lang/StringUTF16" = true := by first | (simp [plainName, overriddenIn]; done) | decide +kernel
theorem pd_4_6_0 : parseMethodDescriptor "([CI[BII)I" = some ⟨[(.array .char), .int, (.array .byte), .int, .int], some .int⟩ := by decide +kernel
theorem ef_4_6 (m : MethodId) (x0 : Addr) : entryFrame m #[(.ref x0), (.int (0 : Int32)), (.int (6 : Int32))] 6 = mkF m 0 #[.val (.ref x0), .val (.int (0 : Int32)), .val (.int (6 : Int32)), .unset, .unset, .unset] [] := by first | (simp [entryFrame, mkF, argsToLocals, Value.category]; done) | rfl
def Q4_6 (Z : State) (c0 c1 c2 c3 c4 c5 : Int32) (h0 : Heap) (n0 : Nat) (v : Option Value) (h : Heap) (L : List Loc) : Prop := ∃ (t : Addr) (k : ClassId), v = some (.ref t) ∧ Fr n0 L ∧ n0 ≤ t ∧ h0.size ≤ t ∧ Keep h0 h [] ∧ Arv Z h t k .byte (6 : Int32) [(.int (nar .byte (c0.toInt8.toInt32))), (.int (nar .byte (c1.toInt8.toInt32))), (.int (nar .byte (c2.toInt8.toInt32))), (.int (nar .byte (c3.toInt8.toInt32))), (.int (nar .byte (c4.toInt8.toInt32))), (.int (nar .byte (c5.toInt8.toInt32)))] (.int (0 : Int32))
set_option maxRecDepth 65536 in
set_option maxHeartbeats 40000000 in
theorem rm4_6 (l : Launch) (Z : State) (a0 : Array Value) (hw : ∀ d ∈ tables_1, d.before a0 Z = true) (ws : List Jvm.Cond) (a1 : Addr) (k1 : ClassId) (c0 c1 c2 c3 c4 c5 : Int32) (h0 : Heap) (n0 : Nat) (Z0 : n0 ≤ h0.size) (V1 : Arv Z h0 a1 k1 .char (6 : Int32) [(.int c0), (.int c1), (.int c2), (.int c3), (.int c4), (.int c5)] (.int (0 : Int32))) (hc0 : ¬ ((255 : Int32) < c0)) (hc1 : ¬ ((255 : Int32) < c1)) (hc2 : ¬ ((255 : Int32) < c2)) (hc3 : ¬ ((255 : Int32) < c3)) (hc4 : ¬ ((255 : Int32) < c4)) (hc5 : ¬ ((255 : Int32) < c5)) :
    MetFree l (⟨"java/lang/StringUTF16", "compress", "([CII)[B"⟩ : MethodName) (head1 (Jvm.Cond.code (⟨"java/lang/StringUTF16", "compress", "([CII)[B"⟩ : MethodName) jdk_52_method_16_code 6 (some (.array .byte)) :: ws) ({ frames := 1, cells := 1, slots := 6, locals := 18 } : Room)) (fun a U => a = #[(.ref a1), (.int (0 : Int32)), (.int (6 : Int32))] ∧ Z.Warmed39 U.vm ∧ U.heap = h0) (fun _ _ _ _ _ => True) (fun _ U o U' => ∃ v L, o = .returned v ∧ Q4_6 Z c0 c1 c2 c3 c4 c5 h0 n0 v U'.heap L ∧ FrameEnd U o U' L ({ frames := 1, cells := 1, slots := 6, locals := 18 } : Room).cells ({ frames := 1, cells := 1, slots := 6, locals := 18 } : Room).slots) := by
  refine MetFree.of_bodySF (plainFor_of_name pn_4_6) hisR ?_
  intro p e s m args below meth c s₁ Bd hml0 hP hK
  obtain ⟨rfl, hZ, hh⟩ := hP
  have hx := Bd.exec
  have hby := Bd.bytes
  have hml : c.maxLocals = 6 := hml0
  have hown : s.vm.findClass "java/lang/StringUTF16" = some m.cls := findClass_of_methodNamed Bd.named
  have hnm := (name_of_methodNamed Bd.named Bd.method).1
  have X0 : Stand p l e ({ frames := 1, cells := 1, slots := 6, locals := 18 } : Room) s m #[(.ref a1), (.int (0 : Int32)), (.int (6 : Int32))] below meth c s₁ [] 0 0 := Stand.of_body Bd
  have e0 : s₁.heap = h0 := by rw [← hh, Bd.state]; rfl
  have N0 := Fr.nil n0
  refine Goes.via (next := s₁.setTop (mkF m 0 #[.val (.ref a1), .val (.int (0 : Int32)), .val (.int (6 : Int32)), .unset, .unset, .unset] [])) (fun t k => castTop (ef_4_6 m a1) k) ?_
  refine Goes.via (fun t k => XS.iloadN X0.here hx rfl (hb hby d4_6_0) rfl k) ?_
  show Goes p e below (s₁.setTop (mkF m 1 #[.val (.ref a1), .val (.int (0 : Int32)), .val (.int (6 : Int32)), .unset, .unset, .unset] [(.int (6 : Int32))])) _
  obtain ⟨T1, h1, ka1, X1, e1, E1, A1, st1⟩ := newP X0 hx hZ (hw _ (List.mem_of_getElem? (i := 19) rfl)) e0 (g := (mkF m 1 #[.val (.ref a1), .val (.int (0 : Int32)), .val (.int (6 : Int32)), .unset, .unset, .unset] [(.int (6 : Int32))])) rfl (hb hby d4_6_1) rfl (by decide) (cap := 6) (by decide) (by decide) (by decide) (by decide)
  obtain ⟨b1, g1⟩ : ∃ z, z = h0.size := ⟨_, rfl⟩
  rw [← g1] at A1 st1
  have lt_a1_b1 : a1 < b1 := Nat.lt_of_lt_of_le V1.lt (Nat.le_of_eq g1.symm)
  have ge_b1 : n0 ≤ b1 := Nat.le_trans Z0 (Nat.le_of_eq g1.symm)
  have sz_b1 : h0.size ≤ b1 := Nat.le_trans (Keep.refl h0 []).1 (Nat.le_of_eq g1.symm)
  have F1_8 := V1.ext E1
  have K1 : Keep h0 h1 [] := (Keep.refl h0 []).ext E1
  have Z1 : n0 ≤ h1.size := Nat.le_trans Z0 E1.1
  have V1 : Arv Z h1 b1 ka1 .byte (6 : Int32) [(.int (0 : Int32)), (.int (0 : Int32)), (.int (0 : Int32)), (.int (0 : Int32)), (.int (0 : Int32)), (.int (0 : Int32))] (.int (0 : Int32)) := (Arv.new A1 (by decide)).pad (pad_rep [] (.int (0 : Int32)) 6)
  refine Goes.via st1 ?_
  show Goes p e below (T1.setTop (mkF m 3 #[.val (.ref a1), .val (.int (0 : Int32)), .val (.int (6 : Int32)), .unset, .unset, .unset] [(.ref b1)])) _
  refine Goes.via (fun t k => XS.astoreN X1.here hx rfl (hb hby d4_6_3) rfl rfl (l' := #[.val (.ref a1), .val (.int (0 : Int32)), .val (.int (6 : Int32)), .val (.ref b1), .unset, .unset]) rfl k) ?_
  show Goes p e below (T1.setTop (mkF m 4 #[.val (.ref a1), .val (.int (0 : Int32)), .val (.int (6 : Int32)), .val (.ref b1), .unset, .unset] [])) _
  refine Goes.via (fun t k => XS.aloadN X1.here hx rfl (hb hby d4_6_4) rfl rfl k) ?_
  show Goes p e below (T1.setTop (mkF m 5 #[.val (.ref a1), .val (.int (0 : Int32)), .val (.int (6 : Int32)), .val (.ref b1), .unset, .unset] [(.ref a1)])) _
  refine Goes.via (fun t k => XS.iloadN X1.here hx rfl (hb hby d4_6_5) rfl k) ?_
  show Goes p e below (T1.setTop (mkF m 6 #[.val (.ref a1), .val (.int (0 : Int32)), .val (.int (6 : Int32)), .val (.ref b1), .unset, .unset] [(.int (0 : Int32)), (.ref a1)])) _
  refine Goes.via (fun t k => XS.aloadN X1.here hx rfl (hb hby d4_6_6) rfl rfl k) ?_
  show Goes p e below (T1.setTop (mkF m 7 #[.val (.ref a1), .val (.int (0 : Int32)), .val (.int (6 : Int32)), .val (.ref b1), .unset, .unset] [(.ref b1), (.int (0 : Int32)), (.ref a1)])) _
  refine Goes.via (fun t k => XS.iconst X1.here hx rfl (hb hby d4_6_7) k) ?_
  show Goes p e below (T1.setTop (mkF m 8 #[.val (.ref a1), .val (.int (0 : Int32)), .val (.int (6 : Int32)), .val (.ref b1), .unset, .unset] [(.int (0 : Int32)), (.ref b1), (.int (0 : Int32)), (.ref a1)])) _
  refine Goes.via (fun t k => XS.iloadN X1.here hx rfl (hb hby d4_6_8) rfl k) ?_
  show Goes p e below (T1.setTop (mkF m 9 #[.val (.ref a1), .val (.int (0 : Int32)), .val (.int (6 : Int32)), .val (.ref b1), .unset, .unset] [(.int (6 : Int32)), (.int (0 : Int32)), (.ref b1), (.int (0 : Int32)), (.ref a1)])) _
  obtain ⟨_, _, ⟨T2, L2, k2, n2⟩, -, X2, ⟨Lc2, hQ2, l2, y2, z2⟩, st2⟩ := Jvm.LawKit.callS X1 hx (y := (⟨"java/lang/StringUTF16", "compress", "([CI[BII)I"⟩ : MethodName)) hown (mvT hZ (hw _ (List.mem_of_getElem? (i := 20) rfl))) (mvT hZ (hw _ (List.mem_of_getElem? (i := 21) rfl))) (mvT hZ (hw _ (List.mem_of_getElem? (i := 17) rfl))) (mvT hZ (hw _ (List.mem_of_getElem? (i := 22) rfl))) (by decide) (backOf (W := 0) (rm5_6 l Z a0 hw [] a1 b1 k1 ka1 c0 c1 c2 c3 c4 c5 h1 n0 Z1 F1_8 V1 ge_b1 lt_a1_b1 hc0 hc1 hc2 hc3 hc4 hc5) hZ (hw _ (List.mem_of_getElem? (i := 22) rfl)) (hw _ (List.mem_of_getElem? (i := 17) rfl)) (by decide) (by decide)) (g := (mkF m 9 #[.val (.ref a1), .val (.int (0 : Int32)), .val (.int (6 : Int32)), .val (.ref b1), .unset, .unset] [(.int (6 : Int32)), (.int (0 : Int32)), (.ref b1), (.int (0 : Int32)), (.ref a1)])) rfl (by rw [hml]; rfl) (argsL := [(.ref a1), (.int (0 : Int32)), (.ref b1), (.int (0 : Int32)), (.int (6 : Int32))]) (rest := []) (lenOf pd_4_6_0 rfl) rfl (by show 2 * 0 + _ ≤ _; exact Nat.le_of_eq rfl) (hb hby d4_6_9) (fun _ _ => ⟨rfl, e1, (by decide : 1 + 0 ≤ _), (by decide : 6 + 0 ≤ _)⟩)
  dsimp only [Pt.U, Pt.locs, Pt.cells, Pt.slots] at X2 l2 y2 z2 st2 hQ2
  subst l2 y2 z2
  obtain ⟨rfl, N2q, Kc2, Vc2⟩ := hQ2
  have F2_30 := F1_8.keep Kc2 (fun q => (Nat.ne_of_lt lt_a1_b1) (List.mem_singleton.mp q))
  have K2 : Keep h0 T2.heap [] := K1.trans Kc2 (fun x hx => by cases List.mem_singleton.mp hx; exact Or.inr sz_b1)
  have Z2 : n0 ≤ T2.heap.size := Nat.le_trans Z1 Kc2.1
  have N2 := Fr.app N0 N2q
  refine Goes.via st2 ?_
  show Goes p e below (T2.setTop (mkF m 12 #[.val (.ref a1), .val (.int (0 : Int32)), .val (.int (6 : Int32)), .val (.ref b1), .unset, .unset] [(.int (6 : Int32))])) _
  refine Goes.via (fun t k => XS.istore X2.here hx rfl (hb hby d4_6_12) rfl (l' := #[.val (.ref a1), .val (.int (0 : Int32)), .val (.int (6 : Int32)), .val (.ref b1), .val (.int (6 : Int32)), .unset]) rfl k) ?_
  show Goes p e below (T2.setTop (mkF m 14 #[.val (.ref a1), .val (.int (0 : Int32)), .val (.int (6 : Int32)), .val (.ref b1), .val (.int (6 : Int32)), .unset] [])) _
  refine Goes.via (fun t k => XS.iload X2.here hx rfl (hb hby d4_6_14) rfl k) ?_
  show Goes p e below (T2.setTop (mkF m 16 #[.val (.ref a1), .val (.int (0 : Int32)), .val (.int (6 : Int32)), .val (.ref b1), .val (.int (6 : Int32)), .unset] [(.int (6 : Int32))])) _
  refine Goes.via (fun t k => XS.iloadN X2.here hx rfl (hb hby d4_6_16) rfl k) ?_
  show Goes p e below (T2.setTop (mkF m 17 #[.val (.ref a1), .val (.int (0 : Int32)), .val (.int (6 : Int32)), .val (.ref b1), .val (.int (6 : Int32)), .unset] [(.int (6 : Int32)), (.int (6 : Int32))])) _
  refine Goes.via (fun t k => XS.icmpYes X2.here hx rfl (pc0 := 17) (pc' := 57) rfl (hb hby d4_6_17) rfl (teq (show (6 : Int32) = (6 : Int32) from rfl)).1 (by decide) (by decide) k) ?_
  show Goes p e below (T2.setTop (mkF m 57 #[.val (.ref a1), .val (.int (0 : Int32)), .val (.int (6 : Int32)), .val (.ref b1), .val (.int (6 : Int32)), .unset] [])) _
  refine Goes.via (fun t k => XS.aloadN X2.here hx rfl (hb hby d4_6_57) rfl rfl k) ?_
  show Goes p e below (T2.setTop (mkF m 58 #[.val (.ref a1), .val (.int (0 : Int32)), .val (.int (6 : Int32)), .val (.ref b1), .val (.int (6 : Int32)), .unset] [(.ref b1)])) _
  obtain ⟨fs, hr, hrun, hended, hW, hsame⟩ := X2.leave (v := some (.ref b1)) (fun h => by rw [Bd.returns] at h; cases h)
  refine ⟨_, _, ?_, hrun, hended, _, _, rfl, ?_, ⟨_, rfl⟩, hW, hsame.mono (by decide) (by decide)⟩
  · exact retOut X2 hx (t := (.array .byte)) Bd.returns rfl (Or.inr (Or.inr (Or.inr (Or.inr ⟨rfl, rfl, rfl⟩)))) (hb hby d4_6_58) hr
  · exact ⟨b1, _, rfl, N2, ge_b1, sz_b1, K2, Vc2⟩
theorem d6_6_0 : decode jdk_52_method_15_code 0 = .ok (.iload_n 1, 1) := by decide +kernel
theorem d6_6_1 : decode jdk_52_method_15_code 1 = .ok (.aload_n 0, 1) := by decide +kernel
theorem d6_6_2 : decode jdk_52_method_15_code 2 = .ok (.arraylength, 1) := by decide +kernel
theorem d6_6_3 : decode jdk_52_method_15_code 3 = .ok (.isub, 1) := by decide +kernel
theorem d6_6_4 : decode jdk_52_method_15_code 4 = .ok (.bipush 31, 2) := by decide +kernel
theorem d6_6_6 : decode jdk_52_method_15_code 6 = .ok (.iushr, 1) := by decide +kernel
theorem d6_6_7 : decode jdk_52_method_15_code 7 = .ok (.i2b, 1) := by decide +kernel
theorem d6_6_8 : decode jdk_52_method_15_code 8 = .ok (.ireturn, 1) := by decide +kernel
theorem pn_6_6 : plainName "java/lang/StringUTF16" = true := by first | (simp [plainName, overriddenIn]; done) | decide +kernel
theorem ef_6_6 (m : MethodId) (x0 : Addr) : entryFrame m #[(.ref x0), (.int (6 : Int32))] 2 = mkF m 0 #[.val (.ref x0), .val (.int (6 : Int32))] [] := by first | (simp [entryFrame, mkF, argsToLocals, Value.category]; done) | rfl
def Q6_6 (Z : State) (h0 : Heap) (n0 : Nat) (v : Option Value) (h : Heap) (L : List Loc) : Prop := v = some (.int (0 : Int32)) ∧ Fr n0 L ∧ h = h0
set_option maxRecDepth 65536 in
set_option maxHeartbeats 40000000 in
theorem rm6_6 (l : Launch) (Z : State) (a0 : Array Value) (hw : ∀ d ∈ tables_1, d.before a0 Z = true) (ws : List Jvm.Cond) (a1 : Addr) (k1 : ClassId) (vs : List Value) (h0 : Heap) (n0 : Nat) (Z0 : n0 ≤ h0.size) (V1 : Arv Z h0 a1 k1 .byte (6 : Int32) vs (.int (0 : Int32))) :
    MetFree l (⟨"java/lang/StringUTF16", "coderFromArrayLen", "([BI)B"⟩ : MethodName) (head1 (Jvm.Cond.code (⟨"java/lang/StringUTF16", "coderFromArrayLen", "([BI)B"⟩ : MethodName) jdk_52_method_15_code 2 (some .byte) :: ws) ({ frames := 0, cells := 0, slots := 0, locals := 0 } : Room)) (fun a U => a = #[(.ref a1), (.int (6 : Int32))] ∧ Z.Warmed39 U.vm ∧ U.heap = h0) (fun _ _ _ _ _ => True) (fun _ U o U' => ∃ v L, o = .returned v ∧ Q6_6 Z  h0 n0 v U'.heap L ∧ FrameEnd U o U' L ({ frames := 0, cells := 0, slots := 0, locals := 0 } : Room).cells ({ frames := 0, cells := 0, slots := 0, locals := 0 } : Room).slots) := by
  refine MetFree.of_bodySF (plainFor_of_name pn_6_6) hisR ?_
  intro p e s m args below meth c s₁ Bd hml0 hP hK
  obtain ⟨rfl, hZ, hh⟩ := hP
  have hx := Bd.exec
  have hby := Bd.bytes
  have hml : c.maxLocals = 2 := hml0
  have hown : s.vm.findClass "java/lang/StringUTF16" = some m.cls := findClass_of_methodNamed Bd.named
  have hnm := (name_of_methodNamed Bd.named Bd.method).1
  have X0 : Stand p l e ({ frames := 0, cells := 0, slots := 0, locals := 0 } : Room) s m #[(.ref a1), (.int (6 : Int32))] below meth c s₁ [] 0 0 := Stand.of_body Bd
  have e0 : s₁.heap = h0 := by rw [← hh, Bd.state]; rfl
  have N0 := Fr.nil n0
  refine Goes.via (next := s₁.setTop (mkF m 0 #[.val (.ref a1), .val (.int (6 : Int32))] [])) (fun t k => castTop (ef_6_6 m a1) k) ?_
  refine Goes.via (fun t k => XS.iloadN X0.here hx rfl (hb hby d6_6_0) rfl k) ?_
  show Goes p e below (s₁.setTop (mkF m 1 #[.val (.ref a1), .val (.int (6 : Int32))] [(.int (6 : Int32))])) _
  refine Goes.via (fun t k => XS.aloadN X0.here hx rfl (hb hby d6_6_1) rfl rfl k) ?_
  show Goes p e below (s₁.setTop (mkF m 2 #[.val (.ref a1), .val (.int (6 : Int32))] [(.ref a1), (.int (6 : Int32))])) _
  obtain ⟨cl1, Ar1, -, Sa1, Na1, -, -⟩ := id V1
  refine Goes.via (next := s₁.setTop (mkF m 3 #[.val (.ref a1), .val (.int (6 : Int32))] [(.int (6 : Int32)), (.int (6 : Int32))])) (fun t k => X0.arraylength hx (by rw [e0]; exact Ar1.1) (State.isArrayOf_alike hZ.alike Ar1.2.1) (g := (mkF m 2 #[.val (.ref a1), .val (.int (6 : Int32))] [(.ref a1), (.int (6 : Int32))])) rfl rfl (hb hby d6_6_2) _ (by rw [len_of Sa1 Na1]; exact k)) ?_
  show Goes p e below (s₁.setTop (mkF m 3 #[.val (.ref a1), .val (.int (6 : Int32))] [(.int (6 : Int32)), (.int (6 : Int32))])) _
  refine Goes.via (fun t k => XS.isub X0.here hx rfl (hb hby d6_6_3) rfl k) ?_
  show Goes p e below (s₁.setTop (mkF m 4 #[.val (.ref a1), .val (.int (6 : Int32))] [(.int (0 : Int32))])) _
  refine Goes.via (fun t k => XS.bipush X0.here hx rfl (hb hby d6_6_4) k) ?_
  show Goes p e below (s₁.setTop (mkF m 6 #[.val (.ref a1), .val (.int (6 : Int32))] [(.int (31 : Int32)), (.int (0 : Int32))])) _
  refine Goes.via (fun t k => XS.iushr X0.here hx rfl (hb hby d6_6_6) rfl k) ?_
  show Goes p e below (s₁.setTop (mkF m 7 #[.val (.ref a1), .val (.int (6 : Int32))] [(.int (0 : Int32))])) _
  refine Goes.via (fun t k => XS.i2b X0.here hx rfl (hb hby d6_6_7) rfl k) ?_
  show Goes p e below (s₁.setTop (mkF m 8 #[.val (.ref a1), .val (.int (6 : Int32))] [(.int (0 : Int32))])) _
  obtain ⟨fs, hr, hrun, hended, hW, hsame⟩ := X0.leave (v := some (.int (0 : Int32))) (fun h => by rw [Bd.returns] at h; cases h)
  refine ⟨_, _, ?_, hrun, hended, _, _, rfl, ?_, ⟨_, rfl⟩, hW, hsame.mono (by decide) (by decide)⟩
  · exact retN X0 hx (t := .byte) Bd.returns (by simp) (hb hby d6_6_8) hr
  · show Q6_6 Z  h0 n0 _ s₁.heap _
    rw [e0]
    exact ⟨rfl, N0, rfl⟩
theorem d2_6_0 : decode jdk_42_method_149_code 0 = .ok (.aload_n 0, 1) := by decide +kernel
theorem d2_6_1 : decode jdk_42_method_149_code 1 = .ok (.invokespecial 1, 3) := by decide +kernel
theorem d2_6_4 : decode jdk_42_method_149_code 4 = .ok (.iload_n 3, 1) := by decide +kernel
theorem d2_6_5 : decode jdk_42_method_149_code 5 = .ok (.ifCond .ne 22, 3) := by decide +kernel
theorem d2_6_27 : decode jdk_42_method_149_code 27 = .ok (.getstatic 38, 3) := by decide +kernel
theorem d2_6_30 : decode jdk_42_method_149_code 30 = .ok (.ifCond .eq 28, 3) := by decide +kernel
theorem d2_6_33 : decode jdk_42_method_149_code 33 = .ok (.aload_n 1, 1) := by decide +kernel
theorem d2_6_34 : decode jdk_42_method_149_code 34 = .ok (.iload_n 2, 1) := by decide +kernel
theorem d2_6_35 : decode jdk_42_method_149_code 35 = .ok (.iload_n 3, 1) := by decide +kernel
theorem d2_6_36 : decode jdk_42_method_149_code 36 = .ok (.invokestatic 177, 3) := by decide +kernel
theorem d2_6_39 : decode jdk_42_method_149_code 39 = .ok (.astore 5, 2) := by decide +kernel
theorem d2_6_41 : decode jdk_42_method_149_code 41 = .ok (.aload_n 0, 1) := by decide +kernel
theorem d2_6_42 : decode jdk_42_method_149_code 42 = .ok (.aload 5, 2) := by decide +kernel
theorem d2_6_44 : decode jdk_42_method_149_code 44 = .ok (.iload_n 3, 1) := by decide +kernel
theorem d2_6_45 : decode jdk_42_method_149_code 45 = .ok (.invokestatic 47, 3) := by decide +kernel
theorem d2_6_48 : decode jdk_42_method_149_code 48 = .ok (.putfield 15, 3) := by decide +kernel
theorem d2_6_51 : decode jdk_42_method_149_code 51 = .ok (.aload_n 0, 1) := by decide +kernel
theorem d2_6_52 : decode jdk_42_method_149_code 52 = .ok (.aload 5, 2) := by decide +kernel
theorem d2_6_54 : decode jdk_42_method_149_code 54 = .ok (.putfield 9, 3) := by decide +kernel
theorem d2_6_57 : decode jdk_42_method_149_code 57 = .ok (.return_, 1) := by decide +kernel
theorem pn_2_6 : plainName "java/lang/String" = true := by first | (simp [plainName, overriddenIn]; done) | decide +kernel
theorem pd_2_6_0 : parseMethodDescriptor "([CII)[B" = some ⟨[(.array .char), .int, .int], some (.array .byte)⟩ := by decide +kernel
theorem pd_2_6_1 : parseMethodDescriptor "([BI)B" = some ⟨[(.array .byte), .int], some .byte⟩ := by decide +kernel
theorem ef_2_6 (m : MethodId) (x0 : Addr) (x1 : Addr) : entryFrame m #[(.ref x0), (.ref x1), (.int (0 : Int32)), (.int (6 : Int32)), .null] 6 = mkF m 0 #[.val (.ref x0), .val (.ref x1), .val (.int (0 : Int32)), .val (.int (6 : Int32)), .val .null, .unset] [] := by first | (simp [entryFrame, mkF, argsToLocals, Value.category]; done) | rfl
def Q2_6 (Z : State) (a1 : Addr) (c0 c1 c2 c3 c4 c5 : Int32) (h0 : Heap) (n0 : Nat) (v : Option Value) (h : Heap) (L : List Loc) : Prop := v = none ∧ Fr n0 L ∧ Keep h0 h [a1] ∧ Exa Z h a1 "java/lang/String" ∧ Fld Z h a1 "java/lang/String" "coder" "B" (.int (0 : Int32)) ∧ ∃ (t : Addr) (k : ClassId), n0 ≤ t ∧ h0.size ≤ t ∧ Fld Z h a1 "java/lang/String" "value" "[B" (.ref t) ∧ Arv Z h t k .byte (6 : Int32) [(.int (nar .byte (c0.toInt8.toInt32))), (.int (nar .byte (c1.toInt8.toInt32))), (.int (nar .byte (c2.toInt8.toInt32))), (.int (nar .byte (c3.toInt8.toInt32))), (.int (nar .byte (c4.toInt8.toInt32))), (.int (nar .byte (c5.toInt8.toInt32)))] (.int (0 : Int32))
set_option maxRecDepth 65536 in
set_option maxHeartbeats 40000000 in
theorem rm2_6 (l : Launch) (Z : State) (a0 : Array Value) (hw : ∀ d ∈ tables_1, d.before a0 Z = true) (ws : List Jvm.Cond) (a1 : Addr) (a2 : Addr) (k2 : ClassId) (c0 c1 c2 c3 c4 c5 : Int32) (w0 : Int32) (h0 : Heap) (n0 : Nat) (Z0 : n0 ≤ h0.size) (E1 : Exa Z h0 a1 "java/lang/String") (Fv : Fld Z h0 a1 "java/lang/String" "value" "[B" .null) (Fc : Fld Z h0 a1 "java/lang/String" "coder" "B" (.int (0 : Int32))) (V2 : Arv Z h0 a2 k2 .char (6 : Int32) [(.int c0), (.int c1), (.int c2), (.int c3), (.int c4), (.int c5)] (.int (0 : Int32))) (g1 : n0 ≤ a1) (ne12 : a1 ≠ a2) (O0 : Old Z n0 h0) (St : own_St Z w0) (hc0 : ¬ ((255 : Int32) < c0)) (hc1 : ¬ ((255 : Int32) < c1)) (hc2 : ¬ ((255 : Int32) < c2)) (hc3 : ¬ ((255 : Int32) < c3)) (hc4 : ¬ ((255 : Int32) < c4)) (hc5 : ¬ ((255 : Int32) < c5)) :
    MetFree l (⟨"java/lang/String", "<init>", "([CIILjava/lang/Void;)V"⟩ : MethodName) (head1 (Jvm.Cond.code (⟨"java/lang/String", "<init>", "([CIILjava/lang/Void;)V"⟩ : MethodName) jdk_42_method_149_code 6 none :: ws) ({ frames := 2, cells := 1, slots := 6, locals := 35 } : Room)) (fun a U => a = #[(.ref a1), (.ref a2), (.int (0 : Int32)), (.int (6 : Int32)), .null] ∧ Z.Warmed39 U.vm ∧ U.heap = h0) (fun _ _ _ _ _ => True) (fun _ U o U' => ∃ v L, o = .returned v ∧ Q2_6 Z a1 c0 c1 c2 c3 c4 c5 h0 n0 v U'.heap L ∧ FrameEnd U o U' L ({ frames := 2, cells := 1, slots := 6, locals := 35 } : Room).cells ({ frames := 2, cells := 1, slots := 6, locals := 35 } : Room).slots) := by
  refine MetFree.of_bodySF (plainFor_of_name pn_2_6) hisR ?_
  intro p e s m args below meth c s₁ Bd hml0 hP hK
  obtain ⟨rfl, hZ, hh⟩ := hP
  have hx := Bd.exec
  have hby := Bd.bytes
  have hml : c.maxLocals = 6 := hml0
  have hown : s.vm.findClass "java/lang/String" = some m.cls := findClass_of_methodNamed Bd.named
  have hnm := (name_of_methodNamed Bd.named Bd.method).1
  have X0 : Stand p l e ({ frames := 2, cells := 1, slots := 6, locals := 35 } : Room) s m #[(.ref a1), (.ref a2), (.int (0 : Int32)), (.int (6 : Int32)), .null] below meth c s₁ [] 0 0 := Stand.of_body Bd
  have e0 : s₁.heap = h0 := by rw [← hh, Bd.state]; rfl
  have N0 := Fr.nil n0
  refine Goes.via (next := s₁.setTop (mkF m 0 #[.val (.ref a1), .val (.ref a2), .val (.int (0 : Int32)), .val (.int (6 : Int32)), .val .null, .unset] [])) (fun t k => castTop (ef_2_6 m a1 a2) k) ?_
  refine Goes.via (fun t k => XS.aloadN X0.here hx rfl (hb hby d2_6_0) rfl rfl k) ?_
  show Goes p e below (s₁.setTop (mkF m 1 #[.val (.ref a1), .val (.ref a2), .val (.int (0 : Int32)), .val (.int (6 : Int32)), .val .null, .unset] [(.ref a1)])) _
  obtain ⟨T1, X1, e1, st1⟩ := initO X0 hx hZ hown (hw _ (List.mem_of_getElem? (i := 11) rfl)) (hw _ (List.mem_of_getElem? (i := 12) rfl)) (hw _ (List.mem_of_getElem? (i := 13) rfl)) e0 (g := (mkF m 1 #[.val (.ref a1), .val (.ref a2), .val (.int (0 : Int32)), .val (.int (6 : Int32)), .val .null, .unset] [(.ref a1)])) rfl (by rw [hml]; rfl) rfl (hb hby d2_6_1) (by decide) (W := 0) (by show 2 * 0 + _ ≤ _; exact Nat.le_of_eq rfl) (by decide)
  refine Goes.via st1 ?_
  show Goes p e below (T1.setTop (mkF m 4 #[.val (.ref a1), .val (.ref a2), .val (.int (0 : Int32)), .val (.int (6 : Int32)), .val .null, .unset] [])) _
  refine Goes.via (fun t k => XS.iloadN X1.here hx rfl (hb hby d2_6_4) rfl k) ?_
  show Goes p e below (T1.setTop (mkF m 5 #[.val (.ref a1), .val (.ref a2), .val (.int (0 : Int32)), .val (.int (6 : Int32)), .val .null, .unset] [(.int (6 : Int32))])) _
  refine Goes.via (fun t k => XS.ifYes X1.here hx rfl (pc0 := 5) (pc' := 27) rfl (hb hby d2_6_5) rfl ((if0 _ _).trans (feq (show ¬ ((6 : Int32) = (0 : Int32)) from (by decide))).2) (by decide) (by decide) k) ?_
  show Goes p e below (T1.setTop (mkF m 27 #[.val (.ref a1), .val (.ref a2), .val (.int (0 : Int32)), .val (.int (6 : Int32)), .val .null, .unset] [])) _
  obtain ⟨T2, X2, e2, st2⟩ := getS2 X1 hx hZ hown (host := "") (Or.inl (hw _ (List.mem_of_getElem? (i := 14) rfl))) Via.refl e1 (St.1.ext O0.2) (g := (mkF m 27 #[.val (.ref a1), .val (.ref a2), .val (.int (0 : Int32)), .val (.int (6 : Int32)), .val .null, .unset] [])) rfl (hb hby d2_6_27)
  refine Goes.via st2 ?_
  show Goes p e below (T2.setTop (mkF m 30 #[.val (.ref a1), .val (.ref a2), .val (.int (0 : Int32)), .val (.int (6 : Int32)), .val .null, .unset] [(.int w0)])) _
  have hc30_3 : ¬ (w0 = (0 : Int32)) := St.2
  refine Goes.via (fun t k => XS.ifNo X2.here hx rfl (hb hby d2_6_30) rfl ((if0 _ _).trans (feq hc30_3).1) k) ?_
  show Goes p e below (T2.setTop (mkF m 33 #[.val (.ref a1), .val (.ref a2), .val (.int (0 : Int32)), .val (.int (6 : Int32)), .val .null, .unset] [])) _
  refine Goes.via (fun t k => XS.aloadN X2.here hx rfl (hb hby d2_6_33) rfl rfl k) ?_
  show Goes p e below (T2.setTop (mkF m 34 #[.val (.ref a1), .val (.ref a2), .val (.int (0 : Int32)), .val (.int (6 : Int32)), .val .null, .unset] [(.ref a2)])) _
  refine Goes.via (fun t k => XS.iloadN X2.here hx rfl (hb hby d2_6_34) rfl k) ?_
  show Goes p e below (T2.setTop (mkF m 35 #[.val (.ref a1), .val (.ref a2), .val (.int (0 : Int32)), .val (.int (6 : Int32)), .val .null, .unset] [(.int (0 : Int32)), (.ref a2)])) _
  refine Goes.via (fun t k => XS.iloadN X2.here hx rfl (hb hby d2_6_35) rfl k) ?_
  show Goes p e below (T2.setTop (mkF m 36 #[.val (.ref a1), .val (.ref a2), .val (.int (0 : Int32)), .val (.int (6 : Int32)), .val .null, .unset] [(.int (6 : Int32)), (.int (0 : Int32)), (.ref a2)])) _
  obtain ⟨_, _, ⟨T4, L4, k4, n4⟩, -, X4, ⟨Lc4, hQ4, l4, y4, z4⟩, st4⟩ := Jvm.LawKit.callS X2 hx (y := (⟨"java/lang/StringUTF16", "compress", "([CII)[B"⟩ : MethodName)) hown (mvT hZ (hw _ (List.mem_of_getElem? (i := 15) rfl))) (mvT hZ (hw _ (List.mem_of_getElem? (i := 16) rfl))) (mvT hZ (hw _ (List.mem_of_getElem? (i := 17) rfl))) (mvT hZ (hw _ (List.mem_of_getElem? (i := 18) rfl))) (by decide) (backOf (W := 0) (rm4_6 l Z a0 hw [] a2 k2 c0 c1 c2 c3 c4 c5 h0 n0 Z0 V2 hc0 hc1 hc2 hc3 hc4 hc5) hZ (hw _ (List.mem_of_getElem? (i := 18) rfl)) (hw _ (List.mem_of_getElem? (i := 17) rfl)) (by decide) (by decide)) (g := (mkF m 36 #[.val (.ref a1), .val (.ref a2), .val (.int (0 : Int32)), .val (.int (6 : Int32)), .val .null, .unset] [(.int (6 : Int32)), (.int (0 : Int32)), (.ref a2)])) rfl (by rw [hml]; rfl) (argsL := [(.ref a2), (.int (0 : Int32)), (.int (6 : Int32))]) (rest := []) (lenOf pd_2_6_0 rfl) rfl (by show 2 * 0 + _ ≤ _; exact Nat.le_of_eq rfl) (hb hby d2_6_36) (fun _ _ => ⟨rfl, e2, (by decide : 0 + 1 ≤ _), (by decide : 0 + 6 ≤ _)⟩)
  dsimp only [Pt.U, Pt.locs, Pt.cells, Pt.slots] at X4 l4 y4 z4 st4 hQ4
  subst l4 y4 z4
  obtain ⟨t4, kt4, rfl, N4q, gt4, zt4, Kc4, Vc4⟩ := hQ4
  have lt_a1_t4 : a1 < t4 := Nat.lt_of_lt_of_le E1.lt zt4
  have lt_a2_t4 : a2 < t4 := Nat.lt_of_lt_of_le V2.lt zt4
  have sz_t4 : h0.size ≤ t4 := Nat.le_trans (Keep.refl h0 [a1]).1 zt4
  have F4_28 := E1.keep Kc4
  have F4_29 := Fv.keep Kc4 List.not_mem_nil
  have F4_30 := Fc.keep Kc4 List.not_mem_nil
  have F4_31 := V2.keep Kc4 List.not_mem_nil
  have K4 : Keep h0 T4.heap [a1] := (Keep.refl h0 [a1]).trans Kc4 (fun x hx => nomatch hx)
  have Z4 : n0 ≤ T4.heap.size := Nat.le_trans Z0 Kc4.1
  have O4 := O0.keep Kc4 (fun x hx => nomatch hx)
  have N4 := Fr.app N0 N4q
  refine Goes.via st4 ?_
  show Goes p e below (T4.setTop (mkF m 39 #[.val (.ref a1), .val (.ref a2), .val (.int (0 : Int32)), .val (.int (6 : Int32)), .val .null, .unset] [(.ref t4)])) _
  refine Goes.via (fun t k => XS.astore X4.here hx rfl (hb hby d2_6_39) rfl rfl (l' := #[.val (.ref a1), .val (.ref a2), .val (.int (0 : Int32)), .val (.int (6 : Int32)), .val .null, .val (.ref t4)]) rfl k) ?_
  show Goes p e below (T4.setTop (mkF m 41 #[.val (.ref a1), .val (.ref a2), .val (.int (0 : Int32)), .val (.int (6 : Int32)), .val .null, .val (.ref t4)] [])) _
  refine Goes.via (fun t k => XS.aloadN X4.here hx rfl (hb hby d2_6_41) rfl rfl k) ?_
  show Goes p e below (T4.setTop (mkF m 42 #[.val (.ref a1), .val (.ref a2), .val (.int (0 : Int32)), .val (.int (6 : Int32)), .val .null, .val (.ref t4)] [(.ref a1)])) _
  refine Goes.via (fun t k => XS.aload X4.here hx rfl (hb hby d2_6_42) rfl rfl k) ?_
  show Goes p e below (T4.setTop (mkF m 44 #[.val (.ref a1), .val (.ref a2), .val (.int (0 : Int32)), .val (.int (6 : Int32)), .val .null, .val (.ref t4)] [(.ref t4), (.ref a1)])) _
  refine Goes.via (fun t k => XS.iloadN X4.here hx rfl (hb hby d2_6_44) rfl k) ?_
  show Goes p e below (T4.setTop (mkF m 45 #[.val (.ref a1), .val (.ref a2), .val (.int (0 : Int32)), .val (.int (6 : Int32)), .val .null, .val (.ref t4)] [(.int (6 : Int32)), (.ref t4), (.ref a1)])) _
  obtain ⟨Lw5, X5w, N5w⟩ := ownPack X4 N4
  obtain ⟨_, _, ⟨T6, L6, k6, n6⟩, -, X6, ⟨Lc6, hQ6, l6, y6, z6⟩, st6⟩ := Jvm.LawKit.callS X5w hx (y := (⟨"java/lang/StringUTF16", "coderFromArrayLen", "([BI)B"⟩ : MethodName)) hown (mvT hZ (hw _ (List.mem_of_getElem? (i := 23) rfl))) (mvT hZ (hw _ (List.mem_of_getElem? (i := 24) rfl))) (mvT hZ (hw _ (List.mem_of_getElem? (i := 17) rfl))) (mvT hZ (hw _ (List.mem_of_getElem? (i := 25) rfl))) (by decide) (backOf (W := 1) (rm6_6 l Z a0 hw [] t4 kt4 _ T4.heap n0 Z4 Vc4) hZ (hw _ (List.mem_of_getElem? (i := 25) rfl)) (hw _ (List.mem_of_getElem? (i := 17) rfl)) (by decide) (by decide)) (g := (mkF m 45 #[.val (.ref a1), .val (.ref a2), .val (.int (0 : Int32)), .val (.int (6 : Int32)), .val .null, .val (.ref t4)] [(.int (6 : Int32)), (.ref t4), (.ref a1)])) rfl (by rw [hml]; rfl) (argsL := [(.ref t4), (.int (6 : Int32))]) (rest := [(.ref a1)]) (lenOf pd_2_6_1 rfl) rfl (by show 2 * 0 + _ ≤ _; exact Nat.le_of_eq rfl) (hb hby d2_6_45) (fun _ _ => ⟨rfl, rfl, (by decide : 1 + 0 ≤ _), (by decide : 6 + 0 ≤ _)⟩)
  dsimp only [Pt.U, Pt.locs, Pt.cells, Pt.slots] at X6 l6 y6 z6 st6 hQ6
  subst l6 y6 z6
  obtain ⟨rfl, N6q, er6⟩ := hQ6
  have e6 : T6.heap = T4.heap := er6
  have N6 := Fr.app N5w N6q
  refine Goes.via st6 ?_
  show Goes p e below (T6.setTop (mkF m 48 #[.val (.ref a1), .val (.ref a2), .val (.int (0 : Int32)), .val (.int (6 : Int32)), .val .null, .val (.ref t4)] [(.int (0 : Int32)), (.ref a1)])) _
  obtain ⟨T7, h7, X7, e7, W7, st7⟩ := putFN X6 hx hZ hown (hw _ (List.mem_of_getElem? (i := 26) rfl)) Via.refl e6 F4_30 F4_28 (Or.inr ⟨(hw _ (List.mem_of_getElem? (i := 27) rfl)), rfl, hnm⟩) (hw _ (List.mem_of_getElem? (i := 2) rfl)) (ty := .byte) (v' := (.int (0 : Int32))) (by decide) rfl (by decide) (g := (mkF m 48 #[.val (.ref a1), .val (.ref a2), .val (.int (0 : Int32)), .val (.int (6 : Int32)), .val .null, .val (.ref t4)] [(.int (0 : Int32)), (.ref a1)])) rfl rfl (hb hby d2_6_48)
  have Fw7 := F4_30.same W7
  have F7_57 := F4_28.wr W7
  have F7_58 := F4_29.other W7 (Or.inr (slot_ne (Or.inr (hw _ (List.mem_of_getElem? (i := 29) rfl))) (Or.inr (hw _ (List.mem_of_getElem? (i := 27) rfl))) (by decide) (t := (.array .byte)) (t' := .byte) (by decide) (by decide)))
  have F7_59 := F4_31.other W7 (Ne.symm ne12)
  have F7_60 := Vc4.other W7 (Nat.ne_of_gt lt_a1_t4)
  have K7 : Keep h0 h7 [a1] := K4.wr W7 (Or.inl (List.mem_of_getElem? (i := 0) rfl))
  have Z7 : n0 ≤ h7.size := Nat.le_trans Z4 (Keep.of_wr W7).1
  have N7 := Fr.snoc X7 N6 g1
  have O7 := O4.wr W7 g1
  refine Goes.via st7 ?_
  show Goes p e below (T7.setTop (mkF m 51 #[.val (.ref a1), .val (.ref a2), .val (.int (0 : Int32)), .val (.int (6 : Int32)), .val .null, .val (.ref t4)] [])) _
  refine Goes.via (fun t k => XS.aloadN X7.here hx rfl (hb hby d2_6_51) rfl rfl k) ?_
  show Goes p e below (T7.setTop (mkF m 52 #[.val (.ref a1), .val (.ref a2), .val (.int (0 : Int32)), .val (.int (6 : Int32)), .val .null, .val (.ref t4)] [(.ref a1)])) _
  refine Goes.via (fun t k => XS.aload X7.here hx rfl (hb hby d2_6_52) rfl rfl k) ?_
  show Goes p e below (T7.setTop (mkF m 54 #[.val (.ref a1), .val (.ref a2), .val (.int (0 : Int32)), .val (.int (6 : Int32)), .val .null, .val (.ref t4)] [(.ref t4), (.ref a1)])) _
  obtain ⟨T8, h8, X8, e8, W8, st8⟩ := putF X7 hx hZ hown (host := "") (Or.inl (hw _ (List.mem_of_getElem? (i := 28) rfl))) Via.refl e7 F7_58 F7_57 (Or.inr ⟨(hw _ (List.mem_of_getElem? (i := 29) rfl)), rfl, hnm⟩) (hw _ (List.mem_of_getElem? (i := 2) rfl)) (ty := (.array .byte)) (by decide) rfl rfl (g := (mkF m 54 #[.val (.ref a1), .val (.ref a2), .val (.int (0 : Int32)), .val (.int (6 : Int32)), .val .null, .val (.ref t4)] [(.ref t4), (.ref a1)])) rfl rfl (hb hby d2_6_54)
  have Fw8 := F7_58.same W8
  have F8_73 := F7_57.wr W8
  have F8_74 := F7_59.other W8 (Ne.symm ne12)
  have F8_75 := F7_60.other W8 (Nat.ne_of_gt lt_a1_t4)
  have F8_76 := Fw7.other W8 (Or.inr (slot_ne (Or.inr (hw _ (List.mem_of_getElem? (i := 27) rfl))) (Or.inr (hw _ (List.mem_of_getElem? (i := 29) rfl))) (by decide) (t := .byte) (t' := (.array .byte)) (by decide) (by decide)))
  have K8 : Keep h0 h8 [a1] := K7.wr W8 (Or.inl (List.mem_of_getElem? (i := 0) rfl))
  have Z8 : n0 ≤ h8.size := Nat.le_trans Z7 (Keep.of_wr W8).1
  have N8 := Fr.snoc X8 N7 g1
  have O8 := O7.wr W8 g1
  refine Goes.via st8 ?_
  show Goes p e below (T8.setTop (mkF m 57 #[.val (.ref a1), .val (.ref a2), .val (.int (0 : Int32)), .val (.int (6 : Int32)), .val .null, .val (.ref t4)] [])) _
  obtain ⟨fs, hr, hrun, hended, hW, hsame⟩ := X8.leave (v := none) (fun _ => rfl)
  refine ⟨_, _, ?_, hrun, hended, _, _, rfl, ?_, ⟨_, rfl⟩, hW, hsame.mono (by decide) (by decide)⟩
  · exact X8.returnOut hx Bd.returns (hb hby d2_6_57) hr
  · show Q2_6 Z a1 c0 c1 c2 c3 c4 c5 h0 n0 _ T8.heap _
    rw [e8]
    exact ⟨rfl, N8, K8, F8_73, F8_76, t4, _, gt4, sz_t4, Fw8, F8_75⟩
theorem d1_6_0 : decode jdk_42_method_3_code 0 = .ok (.aload_n 0, 1) := by decide +kernel
theorem d1_6_1 : decode jdk_42_method_3_code 1 = .ok (.aload_n 1, 1) := by decide +kernel
theorem d1_6_2 : decode jdk_42_method_3_code 2 = .ok (.iconst 0, 1) := by decide +kernel
theorem d1_6_3 : decode jdk_42_method_3_code 3 = .ok (.aload_n 1, 1) := by decide +kernel
theorem d1_6_4 : decode jdk_42_method_3_code 4 = .ok (.arraylength, 1) := by decide +kernel
theorem d1_6_5 : decode jdk_42_method_3_code 5 = .ok (.aconst_null, 1) := by decide +kernel
theorem d1_6_6 : decode jdk_42_method_3_code 6 = .ok (.invokespecial 27, 3) := by decide +kernel
theorem d1_6_9 : decode jdk_42_method_3_code 9 = .ok (.return_, 1) := by decide +kernel
theorem pn_1_6 : plainName "java/lang/String" = true := by first | (simp [plainName, overriddenIn]; done) | decide +kernel
theorem pd_1_6_0 : parseMethodDescriptor "([CIILjava/lang/Void;)V" = some ⟨[(.array .char), .int, .int, (.object "java/lang/Void")], none⟩ := by decide +kernel
theorem ef_1_6 (m : MethodId) (x0 : Addr) (x1 : Addr) : entryFrame m #[(.ref x0), (.ref x1)] 2 = mkF m 0 #[.val (.ref x0), .val (.ref x1)] [] := by first | (simp [entryFrame, mkF, argsToLocals, Value.category]; done) | rfl
def Q1_6 (Z : State) (a1 : Addr) (c0 c1 c2 c3 c4 c5 : Int32) (h0 : Heap) (n0 : Nat) (v : Option Value) (h : Heap) (L : List Loc) : Prop := v = none ∧ Fr n0 L ∧ Keep h0 h [a1] ∧ Exa Z h a1 "java/lang/String" ∧ Fld Z h a1 "java/lang/String" "coder" "B" (.int (0 : Int32)) ∧ ∃ (t : Addr) (k : ClassId), n0 ≤ t ∧ h0.size ≤ t ∧ Fld Z h a1 "java/lang/String" "value" "[B" (.ref t) ∧ Arv Z h t k .byte (6 : Int32) [(.int (nar .byte (c0.toInt8.toInt32))), (.int (nar .byte (c1.toInt8.toInt32))), (.int (nar .byte (c2.toInt8.toInt32))), (.int (nar .byte (c3.toInt8.toInt32))), (.int (nar .byte (c4.toInt8.toInt32))), (.int (nar .byte (c5.toInt8.toInt32)))] (.int (0 : Int32))
set_option maxRecDepth 65536 in
set_option maxHeartbeats 40000000 in
theorem rm1_6 (l : Launch) (Z : State) (a0 : Array Value) (hw : ∀ d ∈ tables_1, d.before a0 Z = true) (ws : List Jvm.Cond) (a1 : Addr) (a2 : Addr) (k2 : ClassId) (c0 c1 c2 c3 c4 c5 : Int32) (w0 : Int32) (h0 : Heap) (n0 : Nat) (Z0 : n0 ≤ h0.size) (E1 : Exa Z h0 a1 "java/lang/String") (Fv : Fld Z h0 a1 "java/lang/String" "value" "[B" .null) (Fc : Fld Z h0 a1 "java/lang/String" "coder" "B" (.int (0 : Int32))) (V2 : Arv Z h0 a2 k2 .char (6 : Int32) [(.int c0), (.int c1), (.int c2), (.int c3), (.int c4), (.int c5)] (.int (0 : Int32))) (g1 : n0 ≤ a1) (ne12 : a1 ≠ a2) (O0 : Old Z n0 h0) (St : own_St Z w0) (hc0 : ¬ ((255 : Int32) < c0)) (hc1 : ¬ ((255 : Int32) < c1)) (hc2 : ¬ ((255 : Int32) < c2)) (hc3 : ¬ ((255 : Int32) < c3)) (hc4 : ¬ ((255 : Int32) < c4)) (hc5 : ¬ ((255 : Int32) < c5)) :
    MetFree l (⟨"java/lang/String", "<init>", "([C)V"⟩ : MethodName) (head1 (Jvm.Cond.code (⟨"java/lang/String", "<init>", "([C)V"⟩ : MethodName) jdk_42_method_3_code 2 none :: ws) ({ frames := 3, cells := 1, slots := 6, locals := 52 } : Room)) (fun a U => a = #[(.ref a1), (.ref a2)] ∧ Z.Warmed39 U.vm ∧ U.heap = h0) (fun _ _ _ _ _ => True) (fun _ U o U' => ∃ v L, o = .returned v ∧ Q1_6 Z a1 c0 c1 c2 c3 c4 c5 h0 n0 v U'.heap L ∧ FrameEnd U o U' L ({ frames := 3, cells := 1, slots := 6, locals := 52 } : Room).cells ({ frames := 3, cells := 1, slots := 6, locals := 52 } : Room).slots) := by
  refine MetFree.of_bodySF (plainFor_of_name pn_1_6) hisR ?_
  intro p e s m args below meth c s₁ Bd hml0 hP hK
  obtain ⟨rfl, hZ, hh⟩ := hP
  have hx := Bd.exec
  have hby := Bd.bytes
  have hml : c.maxLocals = 2 := hml0
  have hown : s.vm.findClass "java/lang/String" = some m.cls := findClass_of_methodNamed Bd.named
  have hnm := (name_of_methodNamed Bd.named Bd.method).1
  have X0 : Stand p l e ({ frames := 3, cells := 1, slots := 6, locals := 52 } : Room) s m #[(.ref a1), (.ref a2)] below meth c s₁ [] 0 0 := Stand.of_body Bd
  have e0 : s₁.heap = h0 := by rw [← hh, Bd.state]; rfl
  have N0 := Fr.nil n0
  refine Goes.via (next := s₁.setTop (mkF m 0 #[.val (.ref a1), .val (.ref a2)] [])) (fun t k => castTop (ef_1_6 m a1 a2) k) ?_
  refine Goes.via (fun t k => XS.aloadN X0.here hx rfl (hb hby d1_6_0) rfl rfl k) ?_
  show Goes p e below (s₁.setTop (mkF m 1 #[.val (.ref a1), .val (.ref a2)] [(.ref a1)])) _
  refine Goes.via (fun t k => XS.aloadN X0.here hx rfl (hb hby d1_6_1) rfl rfl k) ?_
  show Goes p e below (s₁.setTop (mkF m 2 #[.val (.ref a1), .val (.ref a2)] [(.ref a2), (.ref a1)])) _
  refine Goes.via (fun t k => XS.iconst X0.here hx rfl (hb hby d1_6_2) k) ?_
  show Goes p e below (s₁.setTop (mkF m 3 #[.val (.ref a1), .val (.ref a2)] [(.int (0 : Int32)), (.ref a2), (.ref a1)])) _
  refine Goes.via (fun t k => XS.aloadN X0.here hx rfl (hb hby d1_6_3) rfl rfl k) ?_
  show Goes p e below (s₁.setTop (mkF m 4 #[.val (.ref a1), .val (.ref a2)] [(.ref a2), (.int (0 : Int32)), (.ref a2), (.ref a1)])) _
  obtain ⟨cl1, Ar1, -, Sa1, Na1, -, -⟩ := id V2
  refine Goes.via (next := s₁.setTop (mkF m 5 #[.val (.ref a1), .val (.ref a2)] [(.int (6 : Int32)), (.int (0 : Int32)), (.ref a2), (.ref a1)])) (fun t k => X0.arraylength hx (by rw [e0]; exact Ar1.1) (State.isArrayOf_alike hZ.alike Ar1.2.1) (g := (mkF m 4 #[.val (.ref a1), .val (.ref a2)] [(.ref a2), (.int (0 : Int32)), (.ref a2), (.ref a1)])) rfl rfl (hb hby d1_6_4) _ (by rw [len_of Sa1 Na1]; exact k)) ?_
  show Goes p e below (s₁.setTop (mkF m 5 #[.val (.ref a1), .val (.ref a2)] [(.int (6 : Int32)), (.int (0 : Int32)), (.ref a2), (.ref a1)])) _
  refine Goes.via (fun t k => XS.aconstNull X0.here hx rfl (hb hby d1_6_5) k) ?_
  show Goes p e below (s₁.setTop (mkF m 6 #[.val (.ref a1), .val (.ref a2)] [.null, (.int (6 : Int32)), (.int (0 : Int32)), (.ref a2), (.ref a1)])) _
  obtain ⟨_, _, ⟨T2, L2, k2, n2⟩, -, X2, ⟨Lc2, hQ2, l2, y2, z2⟩, st2⟩ := X0.specialBack hx (y := (⟨"java/lang/String", "<init>", "([CIILjava/lang/Void;)V"⟩ : MethodName)) rfl hown (mvT hZ (hw _ (List.mem_of_getElem? (i := 7) rfl))) (mvT hZ (hw _ (List.mem_of_getElem? (i := 8) rfl))) (mvT hZ (hw _ (List.mem_of_getElem? (i := 10) rfl))) (by decide) (backOf (W := 0) (rm2_6 l Z a0 hw [] a1 a2 k2 c0 c1 c2 c3 c4 c5 w0 h0 n0 Z0 E1 Fv Fc V2 g1 ne12 O0 St hc0 hc1 hc2 hc3 hc4 hc5) hZ (hw _ (List.mem_of_getElem? (i := 10) rfl)) (hw _ (List.mem_of_getElem? (i := 3) rfl)) (by decide) (by decide)) (g := (mkF m 6 #[.val (.ref a1), .val (.ref a2)] [.null, (.int (6 : Int32)), (.int (0 : Int32)), (.ref a2), (.ref a1)])) rfl (by rw [hml]; rfl) (Steps.refl _) (a := a1) (argsL := [(.ref a2), (.int (0 : Int32)), (.int (6 : Int32)), .null]) (rest := []) (lenOf pd_1_6_0 rfl) rfl (by show 2 * 0 + _ ≤ _; exact Nat.le_of_eq rfl) (hb hby d1_6_6) (fun _ _ => ⟨rfl, e0, (by decide : 0 + 1 ≤ _), (by decide : 0 + 6 ≤ _)⟩)
  dsimp only [Pt.U, Pt.locs, Pt.cells, Pt.slots] at X2 l2 y2 z2 st2 hQ2
  subst l2 y2 z2
  obtain ⟨rfl, N2q, Kc2, Ec2, Cc2, t2, kt2, gt2, zt2, Vq2, Vc2⟩ := hQ2
  have lt_a1_t2 : a1 < t2 := Nat.lt_of_lt_of_le E1.lt zt2
  have lt_a2_t2 : a2 < t2 := Nat.lt_of_lt_of_le V2.lt zt2
  have sz_t2 : h0.size ≤ t2 := Nat.le_trans (Keep.refl h0 [a1]).1 zt2
  have F2_20 := E1.keep Kc2
  have F2_21 := V2.keep Kc2 (fun q => (Ne.symm ne12) (List.mem_singleton.mp q))
  have K2 : Keep h0 T2.heap [a1] := (Keep.refl h0 [a1]).trans Kc2 (fun x hx => by cases List.mem_singleton.mp hx; exact Or.inl (List.mem_of_getElem? (i := 0) rfl))
  have Z2 : n0 ≤ T2.heap.size := Nat.le_trans Z0 Kc2.1
  have O2 := O0.keep Kc2 (fun x hx => by cases List.mem_singleton.mp hx; exact g1)
  have N2 := Fr.app N0 N2q
  refine Goes.via (fun t k => st2.trans k) ?_
  show Goes p e below (T2.setTop (mkF m 9 #[.val (.ref a1), .val (.ref a2)] [])) _
  obtain ⟨fs, hr, hrun, hended, hW, hsame⟩ := X2.leave (v := none) (fun _ => rfl)
  refine ⟨_, _, ?_, hrun, hended, _, _, rfl, ?_, ⟨_, rfl⟩, hW, hsame.mono (by decide) (by decide)⟩
  · exact X2.returnOut hx Bd.returns (hb hby d1_6_9) hr
  · show Q1_6 Z a1 c0 c1 c2 c3 c4 c5 h0 n0 _ T2.heap _
    exact ⟨rfl, N2, K2, F2_20, Cc2, t2, _, gt2, sz_t2, Vq2, Vc2⟩
theorem d2_e_0 : decode jdk_42_method_149_code 0 = .ok (.aload_n 0, 1) := by decide +kernel
theorem d2_e_1 : decode jdk_42_method_149_code 1 = .ok (.invokespecial 1, 3) := by decide +kernel
theorem d2_e_4 : decode jdk_42_method_149_code 4 = .ok (.iload_n 3, 1) := by decide +kernel
theorem d2_e_5 : decode jdk_42_method_149_code 5 = .ok (.ifCond .ne 22, 3) := by decide +kernel
theorem d2_e_8 : decode jdk_42_method_149_code 8 = .ok (.aload_n 0, 1) := by decide +kernel
theorem d2_e_9 : decode jdk_42_method_149_code 9 = .ok (.ldc 7, 2) := by decide +kernel
theorem d2_e_11 : decode jdk_42_method_149_code 11 = .ok (.getfield 9, 3) := by decide +kernel
theorem d2_e_14 : decode jdk_42_method_149_code 14 = .ok (.putfield 9, 3) := by decide +kernel
theorem d2_e_17 : decode jdk_42_method_149_code 17 = .ok (.aload_n 0, 1) := by decide +kernel
theorem d2_e_18 : decode jdk_42_method_149_code 18 = .ok (.ldc 7, 2) := by decide +kernel
theorem d2_e_20 : decode jdk_42_method_149_code 20 = .ok (.getfield 15, 3) := by decide +kernel
theorem d2_e_23 : decode jdk_42_method_149_code 23 = .ok (.putfield 15, 3) := by decide +kernel
theorem d2_e_26 : decode jdk_42_method_149_code 26 = .ok (.return_, 1) := by decide +kernel
theorem pn_2_e : plainName "java/lang/String" = true := by first | (simp [plainName, overriddenIn]; done) | decide +kernel
theorem ef_2_e (m : MethodId) (x0 : Addr) (x1 : Addr) : entryFrame m #[(.ref x0), (.ref x1), (.int (0 : Int32)), (.int (0 : Int32)), .null] 6 = mkF m 0 #[.val (.ref x0), .val (.ref x1), .val (.int (0 : Int32)), .val (.int (0 : Int32)), .val .null, .unset] [] := by first | (simp [entryFrame, mkF, argsToLocals, Value.category]; done) | rfl
def Q2_e (Z : State) (a1 : Addr) (h0 : Heap) (n0 : Nat) (v : Option Value) (h : Heap) (vm : Vm) (L : List Loc) : Prop := v = none ∧ Fr n0 L ∧ Keep h0 h [a1] ∧ Exa Z h a1 "java/lang/String" ∧ Fld Z h a1 "java/lang/String" "coder" "B" (.int (0 : Int32)) ∧ ∃ (t : Addr) (k : ClassId), a1 ≠ t ∧ Fld Z h a1 "java/lang/String" "value" "[B" (.ref t) ∧ Arv Z h t k .byte (0 : Int32) [] (.int (0 : Int32))
set_option maxRecDepth 65536 in
set_option maxHeartbeats 40000000 in
theorem rm2_e (l : Launch) (Z : State) (a0 : Array Value) (hw : ∀ d ∈ tables_1, d.before a0 Z = true) (ws : List Jvm.Cond) (a1 : Addr) (a2 : Addr) (k2 : ClassId) (w0 : Int32) (h0 : Heap) (n0 : Nat) (Z0 : n0 ≤ h0.size) (E1 : Exa Z h0 a1 "java/lang/String") (Fv : Fld Z h0 a1 "java/lang/String" "value" "[B" .null) (Fc : Fld Z h0 a1 "java/lang/String" "coder" "B" (.int (0 : Int32))) (V2 : Arv Z h0 a2 k2 .char (0 : Int32) [] (.int (0 : Int32))) (g1 : n0 ≤ a1) (ne12 : a1 ≠ a2) (O0 : Old Z n0 h0) (St : own_St Z w0) (hcH : Jvm.Lit.constHeld Z "java/lang/String" 7) (hcw : Jvm.Lit.compactW.before a0 Z = true) :
    MetFree l (⟨"java/lang/String", "<init>", "([CIILjava/lang/Void;)V"⟩ : MethodName) (head1 (Jvm.Cond.code (⟨"java/lang/String", "<init>", "([CIILjava/lang/Void;)V"⟩ : MethodName) jdk_42_method_149_code 6 none :: ws) ({ frames := 1, cells := 2, slots := 4, locals := 12 } : Room)) (fun a U => a = #[(.ref a1), (.ref a2), (.int (0 : Int32)), (.int (0 : Int32)), .null] ∧ Z.Warmed39 U.vm ∧ U.heap = h0 ∧ IB Z U.vm []) (fun _ _ _ _ _ => True) (fun _ U o U' => ∃ v L, o = .returned v ∧ Q2_e Z a1 h0 n0 v U'.heap U'.vm L ∧ ReturnedEndW U o U' L ({ frames := 1, cells := 2, slots := 4, locals := 12 } : Room).cells ({ frames := 1, cells := 2, slots := 4, locals := 12 } : Room).slots) := by
  refine MetFree.of_bodySF (plainFor_of_name pn_2_e) hisR ?_
  intro p e s m args below meth c s₁ Bd hml0 hP hK
  obtain ⟨rfl, hZ, hh, hI⟩ := hP
  have hx := Bd.exec
  have hby := Bd.bytes
  have hml : c.maxLocals = 6 := hml0
  have hown : s.vm.findClass "java/lang/String" = some m.cls := findClass_of_methodNamed Bd.named
  have hnm := (name_of_methodNamed Bd.named Bd.method).1
  have X0 : Stand p l e ({ frames := 1, cells := 2, slots := 4, locals := 12 } : Room) (s.setVm s.vm) m #[(.ref a1), (.ref a2), (.int (0 : Int32)), (.int (0 : Int32)), .null] below meth c s₁ [] 0 0 := Stand.of_body Bd
  have e0 : s₁.heap = h0 := by rw [← hh, Bd.state]; rfl
  have N0 := Fr.nil n0
  have hS : s.Since s.vm 0 := (State.WarmedH.refl s).since 0
  have hk : 0 ≤ h0.size := Nat.zero_le _
  refine Goes.via (next := s₁.setTop (mkF m 0 #[.val (.ref a1), .val (.ref a2), .val (.int (0 : Int32)), .val (.int (0 : Int32)), .val .null, .unset] [])) (fun t k => castTop (ef_2_e m a1 a2) k) ?_
  refine Goes.via (fun t k => XS.aloadN X0.here hx rfl (hb hby d2_e_0) rfl rfl k) ?_
  show Goes p e below (s₁.setTop (mkF m 1 #[.val (.ref a1), .val (.ref a2), .val (.int (0 : Int32)), .val (.int (0 : Int32)), .val .null, .unset] [(.ref a1)])) _
  obtain ⟨T1, X1, e1, st1⟩ := initO X0 hx hZ hown (hw _ (List.mem_of_getElem? (i := 11) rfl)) (hw _ (List.mem_of_getElem? (i := 12) rfl)) (hw _ (List.mem_of_getElem? (i := 13) rfl)) e0 (g := (mkF m 1 #[.val (.ref a1), .val (.ref a2), .val (.int (0 : Int32)), .val (.int (0 : Int32)), .val .null, .unset] [(.ref a1)])) rfl (by rw [hml]; rfl) rfl (hb hby d2_e_1) (by decide) (W := 0) (by show 2 * 0 + _ ≤ _; exact Nat.le_of_eq rfl) (by decide)
  refine Goes.via st1 ?_
  show Goes p e below (T1.setTop (mkF m 4 #[.val (.ref a1), .val (.ref a2), .val (.int (0 : Int32)), .val (.int (0 : Int32)), .val .null, .unset] [])) _
  refine Goes.via (fun t k => XS.iloadN X1.here hx rfl (hb hby d2_e_4) rfl k) ?_
  show Goes p e below (T1.setTop (mkF m 5 #[.val (.ref a1), .val (.ref a2), .val (.int (0 : Int32)), .val (.int (0 : Int32)), .val .null, .unset] [(.int (0 : Int32))])) _
  refine Goes.via (fun t k => XS.ifNo X1.here hx rfl (hb hby d2_e_5) rfl ((if0 _ _).trans (teq (show (0 : Int32) = (0 : Int32) from rfl)).2) k) ?_
  show Goes p e below (T1.setTop (mkF m 8 #[.val (.ref a1), .val (.ref a2), .val (.int (0 : Int32)), .val (.int (0 : Int32)), .val .null, .unset] [])) _
  refine Goes.via (fun t k => XS.aloadN X1.here hx rfl (hb hby d2_e_8) rfl rfl k) ?_
  show Goes p e below (T1.setTop (mkF m 9 #[.val (.ref a1), .val (.ref a2), .val (.int (0 : Int32)), .val (.int (0 : Int32)), .val .null, .unset] [(.ref a1)])) _
  obtain ⟨la2, T2, h2, kk2, lb2, lk2, X2, e2, E2, S2, hk2, Zw2, ow2, Ex2, Fc2, Fv2, Va2, lta2, ltb2, I2, Lt2, st2⟩ := ldcSVL X1 hx hZ hown (hw _ (List.mem_of_getElem? (i := 70) rfl)) (own_wS hw) e1 hS hk (Fr.nil _) (fun b cl q => by rw [hh]; exact O0.2.2 b cl q) hI (by decide) hcH hcw (vs := []) (z := (0 : Int32)) ⟨by decide, by decide⟩ (by decide) (by decide) (g := (mkF m 9 #[.val (.ref a1), .val (.ref a2), .val (.int (0 : Int32)), .val (.int (0 : Int32)), .val .null, .unset] [(.ref a1)])) rfl (hb hby d2_e_9) (n := 0) (by decide) (by decide) (by decide) (by decide)
  have F2_12 := E1.ext E2
  have F2_13 := Fv.ext E2
  have F2_14 := Fc.ext E2
  have F2_15 := V2.ext E2
  have K2 : Keep h0 h2 [a1] := (Keep.refl h0 [a1]).ext E2
  have Z2 : n0 ≤ h2.size := Nat.le_trans Z0 E2.1
  have O2 := O0.ext E2
  have hZ := Zw2
  have hown := ow2
  have hS := S2
  have hk := hk2
  have hI := I2
  have nx2 : la2 ≠ a1 := Fld.ne Fv2 F2_13 (by simp)
  have ny2 : a1 ≠ lb2 := Exa.neArv F2_12 Va2 (hw _ (List.mem_of_getElem? (i := 2) rfl))
  refine Goes.via st2 ?_
  show Goes p e below (T2.setTop (mkF m 11 #[.val (.ref a1), .val (.ref a2), .val (.int (0 : Int32)), .val (.int (0 : Int32)), .val .null, .unset] [(.ref la2), (.ref a1)])) _
  obtain ⟨T3, X3, e3, st3⟩ := getF X2 hx hZ hown (host := "") (Or.inl (hw _ (List.mem_of_getElem? (i := 28) rfl))) Via.refl e2 Fv2 (g := (mkF m 11 #[.val (.ref a1), .val (.ref a2), .val (.int (0 : Int32)), .val (.int (0 : Int32)), .val .null, .unset] [(.ref la2), (.ref a1)])) rfl rfl (hb hby d2_e_11)
  refine Goes.via st3 ?_
  show Goes p e below (T3.setTop (mkF m 14 #[.val (.ref a1), .val (.ref a2), .val (.int (0 : Int32)), .val (.int (0 : Int32)), .val .null, .unset] [(.ref lb2), (.ref a1)])) _
  obtain ⟨T4, h4, X4, e4, W4, st4⟩ := putF X3 hx hZ hown (host := "") (Or.inl (hw _ (List.mem_of_getElem? (i := 28) rfl))) Via.refl e3 F2_13 F2_12 (Or.inr ⟨(hw _ (List.mem_of_getElem? (i := 29) rfl)), rfl, hnm⟩) (hw _ (List.mem_of_getElem? (i := 2) rfl)) (ty := (.array .byte)) (by decide) rfl rfl (g := (mkF m 14 #[.val (.ref a1), .val (.ref a2), .val (.int (0 : Int32)), .val (.int (0 : Int32)), .val .null, .unset] [(.ref lb2), (.ref a1)])) rfl rfl (hb hby d2_e_14)
  have Fw4 := F2_13.same W4
  have F4_33 := F2_12.wr W4
  have F4_34 := F2_14.other W4 (Or.inr (slot_ne (Or.inr (hw _ (List.mem_of_getElem? (i := 27) rfl))) (Or.inr (hw _ (List.mem_of_getElem? (i := 29) rfl))) (by decide) (t := .byte) (t' := (.array .byte)) (by decide) (by decide)))
  have F4_35 := F2_15.other W4 (Ne.symm ne12)
  have F4_36 := Ex2.wr W4
  have F4_37 := Fc2.other W4 (Or.inl nx2)
  have F4_38 := Fv2.other W4 (Or.inl nx2)
  have F4_39 := Va2.other W4 (Ne.symm ny2)
  have K4 : Keep h0 h4 [a1] := K2.wr W4 (Or.inl (List.mem_of_getElem? (i := 0) rfl))
  have Z4 : n0 ≤ h4.size := Nat.le_trans Z2 (Keep.of_wr W4).1
  have N4 := Fr.snoc X4 N0 g1
  have O4 := O2.wr W4 g1
  have hk := Nat.le_trans hk (Keep.of_wr W4).1
  refine Goes.via st4 ?_
  show Goes p e below (T4.setTop (mkF m 17 #[.val (.ref a1), .val (.ref a2), .val (.int (0 : Int32)), .val (.int (0 : Int32)), .val .null, .unset] [])) _
  refine Goes.via (fun t k => XS.aloadN X4.here hx rfl (hb hby d2_e_17) rfl rfl k) ?_
  show Goes p e below (T4.setTop (mkF m 18 #[.val (.ref a1), .val (.ref a2), .val (.int (0 : Int32)), .val (.int (0 : Int32)), .val .null, .unset] [(.ref a1)])) _
  refine Goes.via (fun t k => ldcAgain X4 hx hZ hown (hw _ (List.mem_of_getElem? (i := 70) rfl)) Lt2 (g := (mkF m 18 #[.val (.ref a1), .val (.ref a2), .val (.int (0 : Int32)), .val (.int (0 : Int32)), .val .null, .unset] [(.ref a1)])) rfl (hb hby d2_e_18) _ k) ?_
  show Goes p e below (T4.setTop (mkF m 20 #[.val (.ref a1), .val (.ref a2), .val (.int (0 : Int32)), .val (.int (0 : Int32)), .val .null, .unset] [(.ref la2), (.ref a1)])) _
  obtain ⟨T6, X6, e6, st6⟩ := getF X4 hx hZ hown (host := "") (Or.inl (hw _ (List.mem_of_getElem? (i := 26) rfl))) Via.refl e4 F4_37 (g := (mkF m 20 #[.val (.ref a1), .val (.ref a2), .val (.int (0 : Int32)), .val (.int (0 : Int32)), .val .null, .unset] [(.ref la2), (.ref a1)])) rfl rfl (hb hby d2_e_20)
  refine Goes.via st6 ?_
  show Goes p e below (T6.setTop (mkF m 23 #[.val (.ref a1), .val (.ref a2), .val (.int (0 : Int32)), .val (.int (0 : Int32)), .val .null, .unset] [(.int (0 : Int32)), (.ref a1)])) _
  obtain ⟨T7, h7, X7, e7, W7, st7⟩ := putFN X6 hx hZ hown (hw _ (List.mem_of_getElem? (i := 26) rfl)) Via.refl e6 F4_34 F4_33 (Or.inr ⟨(hw _ (List.mem_of_getElem? (i := 27) rfl)), rfl, hnm⟩) (hw _ (List.mem_of_getElem? (i := 2) rfl)) (ty := .byte) (v' := (.int (0 : Int32))) (by decide) rfl (by decide) (g := (mkF m 23 #[.val (.ref a1), .val (.ref a2), .val (.int (0 : Int32)), .val (.int (0 : Int32)), .val .null, .unset] [(.int (0 : Int32)), (.ref a1)])) rfl rfl (hb hby d2_e_23)
  have Fw7 := F4_34.same W7
  have F7_56 := F4_33.wr W7
  have F7_57 := F4_35.other W7 (Ne.symm ne12)
  have F7_58 := F4_36.wr W7
  have F7_59 := F4_37.other W7 (Or.inl nx2)
  have F7_60 := F4_38.other W7 (Or.inl nx2)
  have F7_61 := F4_39.other W7 (Ne.symm ny2)
  have F7_62 := Fw4.other W7 (Or.inr (slot_ne (Or.inr (hw _ (List.mem_of_getElem? (i := 29) rfl))) (Or.inr (hw _ (List.mem_of_getElem? (i := 27) rfl))) (by decide) (t := (.array .byte)) (t' := .byte) (by decide) (by decide)))
  have K7 : Keep h0 h7 [a1] := K4.wr W7 (Or.inl (List.mem_of_getElem? (i := 0) rfl))
  have Z7 : n0 ≤ h7.size := Nat.le_trans Z4 (Keep.of_wr W7).1
  have N7 := Fr.snoc X7 N4 g1
  have O7 := O4.wr W7 g1
  have hk := Nat.le_trans hk (Keep.of_wr W7).1
  refine Goes.via st7 ?_
  show Goes p e below (T7.setTop (mkF m 26 #[.val (.ref a1), .val (.ref a2), .val (.int (0 : Int32)), .val (.int (0 : Int32)), .val .null, .unset] [])) _
  obtain ⟨fs, hr, hrun, hended, hRE⟩ := X7.leaveW hS (by rw [e7]; exact hk) (v := none) (fun _ => rfl)
  refine ⟨_, _, ?_, hrun, hended, _, _, rfl, ?_, hRE.1, hRE.2.1, hRE.2.2.1, hRE.2.2.2.mono (by decide) (by decide)⟩
  · exact X7.returnOut hx Bd.returns (hb hby d2_e_26) hr
  · show Q2_e Z a1 h0 n0 _ T7.heap _ _
    rw [e7]
    exact ⟨rfl, N7, K7, F7_56, Fw7, lb2, _, ny2, F7_62, F7_61⟩
theorem d1_e_0 : decode jdk_42_method_3_code 0 = .ok (.aload_n 0, 1) := by decide +kernel
theorem d1_e_1 : decode jdk_42_method_3_code 1 = .ok (.aload_n 1, 1) := by decide +kernel
theorem d1_e_2 : decode jdk_42_method_3_code 2 = .ok (.iconst 0, 1) := by decide +kernel
theorem d1_e_3 : decode jdk_42_method_3_code 3 = .ok (.aload_n 1, 1) := by decide +kernel
theorem d1_e_4 : decode jdk_42_method_3_code 4 = .ok (.arraylength, 1) := by decide +kernel
theorem d1_e_5 : decode jdk_42_method_3_code 5 = .ok (.aconst_null, 1) := by decide +kernel
theorem d1_e_6 : decode jdk_42_method_3_code 6 = .ok (.invokespecial 27, 3) := by decide +kernel
theorem d1_e_9 : decode jdk_42_method_3_code 9 = .ok (.return_, 1) := by decide +kernel
theorem pn_1_e : plainName "java/lang/String" = true := by first | (simp [plainName, overriddenIn]; done) | decide +kernel
theorem pd_1_e_0 : parseMethodDescriptor "([CIILjava/lang/Void;)V" = some ⟨[(.array .char), .int, .int, (.object "java/lang/Void")], none⟩ := by decide +kernel
theorem ef_1_e (m : MethodId) (x0 : Addr) (x1 : Addr) : entryFrame m #[(.ref x0), (.ref x1)] 2 = mkF m 0 #[.val (.ref x0), .val (.ref x1)] [] := by first | (simp [entryFrame, mkF, argsToLocals, Value.category]; done) | rfl
def Q1_e (Z : State) (a1 : Addr) (h0 : Heap) (n0 : Nat) (v : Option Value) (h : Heap) (vm : Vm) (L : List Loc) : Prop := v = none ∧ Fr n0 L ∧ Keep h0 h [a1] ∧ Exa Z h a1 "java/lang/String" ∧ Fld Z h a1 "java/lang/String" "coder" "B" (.int (0 : Int32)) ∧ ∃ (t : Addr) (k : ClassId), a1 ≠ t ∧ Fld Z h a1 "java/lang/String" "value" "[B" (.ref t) ∧ Arv Z h t k .byte (0 : Int32) [] (.int (0 : Int32))
set_option maxRecDepth 65536 in
set_option maxHeartbeats 40000000 in
theorem rm1_e (l : Launch) (Z : State) (a0 : Array Value) (hw : ∀ d ∈ tables_1, d.before a0 Z = true) (ws : List Jvm.Cond) (a1 : Addr) (a2 : Addr) (k2 : ClassId) (w0 : Int32) (h0 : Heap) (n0 : Nat) (Z0 : n0 ≤ h0.size) (E1 : Exa Z h0 a1 "java/lang/String") (Fv : Fld Z h0 a1 "java/lang/String" "value" "[B" .null) (Fc : Fld Z h0 a1 "java/lang/String" "coder" "B" (.int (0 : Int32))) (V2 : Arv Z h0 a2 k2 .char (0 : Int32) [] (.int (0 : Int32))) (g1 : n0 ≤ a1) (ne12 : a1 ≠ a2) (O0 : Old Z n0 h0) (St : own_St Z w0) (hcH : Jvm.Lit.constHeld Z "java/lang/String" 7) (hcw : Jvm.Lit.compactW.before a0 Z = true) :
    MetFree l (⟨"java/lang/String", "<init>", "([C)V"⟩ : MethodName) (head1 (Jvm.Cond.code (⟨"java/lang/String", "<init>", "([C)V"⟩ : MethodName) jdk_42_method_3_code 2 none :: ws) ({ frames := 2, cells := 2, slots := 4, locals := 29 } : Room)) (fun a U => a = #[(.ref a1), (.ref a2)] ∧ Z.Warmed39 U.vm ∧ U.heap = h0 ∧ IB Z U.vm []) (fun _ _ _ _ _ => True) (fun _ U o U' => ∃ v L, o = .returned v ∧ Q1_e Z a1 h0 n0 v U'.heap U'.vm L ∧ ReturnedEndW U o U' L ({ frames := 2, cells := 2, slots := 4, locals := 29 } : Room).cells ({ frames := 2, cells := 2, slots := 4, locals := 29 } : Room).slots) := by
  refine MetFree.of_bodySF (plainFor_of_name pn_1_e) hisR ?_
  intro p e s m args below meth c s₁ Bd hml0 hP hK
  obtain ⟨rfl, hZ, hh, hI⟩ := hP
  have hx := Bd.exec
  have hby := Bd.bytes
  have hml : c.maxLocals = 2 := hml0
  have hown : s.vm.findClass "java/lang/String" = some m.cls := findClass_of_methodNamed Bd.named
  have hnm := (name_of_methodNamed Bd.named Bd.method).1
  have X0 : Stand p l e ({ frames := 2, cells := 2, slots := 4, locals := 29 } : Room) (s.setVm s.vm) m #[(.ref a1), (.ref a2)] below meth c s₁ [] 0 0 := Stand.of_body Bd
  have e0 : s₁.heap = h0 := by rw [← hh, Bd.state]; rfl
  have N0 := Fr.nil n0
  have hS : s.Since s.vm 0 := (State.WarmedH.refl s).since 0
  have hk : 0 ≤ h0.size := Nat.zero_le _
  refine Goes.via (next := s₁.setTop (mkF m 0 #[.val (.ref a1), .val (.ref a2)] [])) (fun t k => castTop (ef_1_e m a1 a2) k) ?_
  refine Goes.via (fun t k => XS.aloadN X0.here hx rfl (hb hby d1_e_0) rfl rfl k) ?_
  show Goes p e below (s₁.setTop (mkF m 1 #[.val (.ref a1), .val (.ref a2)] [(.ref a1)])) _
  refine Goes.via (fun t k => XS.aloadN X0.here hx rfl (hb hby d1_e_1) rfl rfl k) ?_
  show Goes p e below (s₁.setTop (mkF m 2 #[.val (.ref a1), .val (.ref a2)] [(.ref a2), (.ref a1)])) _
  refine Goes.via (fun t k => XS.iconst X0.here hx rfl (hb hby d1_e_2) k) ?_
  show Goes p e below (s₁.setTop (mkF m 3 #[.val (.ref a1), .val (.ref a2)] [(.int (0 : Int32)), (.ref a2), (.ref a1)])) _
  refine Goes.via (fun t k => XS.aloadN X0.here hx rfl (hb hby d1_e_3) rfl rfl k) ?_
  show Goes p e below (s₁.setTop (mkF m 4 #[.val (.ref a1), .val (.ref a2)] [(.ref a2), (.int (0 : Int32)), (.ref a2), (.ref a1)])) _
  obtain ⟨cl1, Ar1, -, Sa1, Na1, -, -⟩ := id V2
  refine Goes.via (next := s₁.setTop (mkF m 5 #[.val (.ref a1), .val (.ref a2)] [(.int (0 : Int32)), (.int (0 : Int32)), (.ref a2), (.ref a1)])) (fun t k => X0.arraylength hx (by rw [e0]; exact Ar1.1) (State.isArrayOf_alike hZ.alike Ar1.2.1) (g := (mkF m 4 #[.val (.ref a1), .val (.ref a2)] [(.ref a2), (.int (0 : Int32)), (.ref a2), (.ref a1)])) rfl rfl (hb hby d1_e_4) _ (by rw [len_of Sa1 Na1]; exact k)) ?_
  show Goes p e below (s₁.setTop (mkF m 5 #[.val (.ref a1), .val (.ref a2)] [(.int (0 : Int32)), (.int (0 : Int32)), (.ref a2), (.ref a1)])) _
  refine Goes.via (fun t k => XS.aconstNull X0.here hx rfl (hb hby d1_e_5) k) ?_
  show Goes p e below (s₁.setTop (mkF m 6 #[.val (.ref a1), .val (.ref a2)] [.null, (.int (0 : Int32)), (.int (0 : Int32)), (.ref a2), (.ref a1)])) _
  obtain ⟨_, _, ⟨T2, L2, k2, n2⟩, -, X2, S2, sg2, ⟨Lc2, hQ2, l2, y2, z2⟩, st2⟩ := X0.specialBackS hx (y := (⟨"java/lang/String", "<init>", "([CIILjava/lang/Void;)V"⟩ : MethodName)) rfl hown (mvT hZ (hw _ (List.mem_of_getElem? (i := 7) rfl))) (mvT hZ (hw _ (List.mem_of_getElem? (i := 8) rfl))) (mvT hZ (hw _ (List.mem_of_getElem? (i := 10) rfl))) (by decide) (ownBackS (W := 0) (I := fun vm => IB Z vm []) (rm2_e l Z a0 hw [] a1 a2 k2 w0 h0 n0 Z0 E1 Fv Fc V2 g1 ne12 O0 St hcH hcw) hZ (fun vm q => hI.warm q) (hw _ (List.mem_of_getElem? (i := 10) rfl)) (hw _ (List.mem_of_getElem? (i := 3) rfl)) (by decide) (by decide)) (g := (mkF m 6 #[.val (.ref a1), .val (.ref a2)] [.null, (.int (0 : Int32)), (.int (0 : Int32)), (.ref a2), (.ref a1)])) rfl (by rw [hml]; rfl) (Steps.refl _) (a := a1) (argsL := [(.ref a2), (.int (0 : Int32)), (.int (0 : Int32)), .null]) (rest := []) (lenOf pd_1_e_0 rfl) rfl (by show 2 * 0 + _ ≤ _; exact Nat.le_of_eq rfl) (hb hby d1_e_6) (fun _ _ => ⟨rfl, e0, (by decide : 0 + 2 ≤ _), (by decide : 0 + 4 ≤ _)⟩)
  dsimp only [Pt.U, Pt.locs, Pt.cells, Pt.slots] at X2 l2 y2 z2 st2 hQ2 S2 sg2
  subst l2 y2 z2
  obtain ⟨X2f, hS2, hZ2, hown2⟩ := rebS hS hk X2 S2 (by rw [← e0]; exact sg2) hZ hown
  have X2 := X2f
  have hS := hS2
  have hZ := hZ2
  have hown := hown2
  have hk : T2.heap.size ≤ T2.heap.size := Nat.le_refl _
  obtain ⟨rfl, N2q, Kc2, Ec2, Cc2, t2, kt2, nt2, Vq2, Vc2⟩ := hQ2
  have F2_23 := E1.keep Kc2
  have F2_24 := V2.keep Kc2 (fun q => (Ne.symm ne12) (List.mem_singleton.mp q))
  have K2 : Keep h0 T2.heap [a1] := (Keep.refl h0 [a1]).trans Kc2 (fun x hx => by cases List.mem_singleton.mp hx; exact Or.inl (List.mem_of_getElem? (i := 0) rfl))
  have Z2 : n0 ≤ T2.heap.size := Nat.le_trans Z0 Kc2.1
  have O2 := O0.keep Kc2 (fun x hx => by cases List.mem_singleton.mp hx; exact g1)
  have N2 := Fr.app N0 N2q
  refine Goes.via (fun t k => st2.trans k) ?_
  show Goes p e below (T2.setTop (mkF m 9 #[.val (.ref a1), .val (.ref a2)] [])) _
  obtain ⟨fs, hr, hrun, hended, hRE⟩ := X2.leaveW hS hk (v := none) (fun _ => rfl)
  refine ⟨_, _, ?_, hrun, hended, _, _, rfl, ?_, hRE.1, hRE.2.1, hRE.2.2.1, hRE.2.2.2.mono (by decide) (by decide)⟩
  · exact X2.returnOut hx Bd.returns (hb hby d1_e_9) hr
  · show Q1_e Z a1 h0 n0 _ T2.heap _ _
    exact ⟨rfl, N2, K2, F2_23, Cc2, t2, _, nt2, Vq2, Vc2⟩
theorem d12_0 : decode jdk_42_method_152_code 0 = .ok (.getstatic 38, 3) := by decide +kernel
theorem d12_3 : decode jdk_42_method_152_code 3 = .ok (.ifCond .eq 10, 3) := by decide +kernel
theorem d12_6 : decode jdk_42_method_152_code 6 = .ok (.aload_n 0, 1) := by decide +kernel
theorem d12_7 : decode jdk_42_method_152_code 7 = .ok (.getfield 15, 3) := by decide +kernel
theorem d12_10 : decode jdk_42_method_152_code 10 = .ok (.goto 4, 3) := by decide +kernel
theorem d12_14 : decode jdk_42_method_152_code 14 = .ok (.ireturn, 1) := by decide +kernel
theorem pn_12 : plainName "java/lang/String" = true := by first | (simp [plainName, overriddenIn]; done) | decide +kernel
theorem ef_12 (m : MethodId) (x0 : Addr) : entryFrame m #[(.ref x0)] 1 = mkF m 0 #[.val (.ref x0)] [] := by first | (simp [entryFrame, mkF, argsToLocals, Value.category]; done) | rfl
def Q12 (Z : State) (h0 : Heap) (n0 : Nat) (v : Option Value) (h : Heap) (L : List Loc) : Prop := v = some (.int (0 : Int32)) ∧ Fr n0 L ∧ h = h0
set_option maxRecDepth 65536 in
set_option maxHeartbeats 40000000 in
theorem rm12 (l : Launch) (Z : State) (a0 : Array Value) (hw : ∀ d ∈ tables_1, d.before a0 Z = true) (ws : List Jvm.Cond) (a1 : Addr) (w0 : Int32) (h0 : Heap) (n0 : Nat) (Z0 : n0 ≤ h0.size) (Fc : Fld Z h0 a1 "java/lang/String" "coder" "B" (.int (0 : Int32))) (O0 : Old Z n0 h0) (St : own_St Z w0) :
    MetFree l (⟨"java/lang/String", "coder", "()B"⟩ : MethodName) (head1 (Jvm.Cond.code (⟨"java/lang/String", "coder", "()B"⟩ : MethodName) jdk_42_method_152_code 1 (some .byte) :: ws) ({ frames := 0, cells := 0, slots := 0, locals := 0 } : Room)) (fun a U => a = #[(.ref a1)] ∧ Z.Warmed39 U.vm ∧ U.heap = h0) (fun _ _ _ _ _ => True) (fun _ U o U' => ∃ v L, o = .returned v ∧ Q12 Z  h0 n0 v U'.heap L ∧ FrameEnd U o U' L ({ frames := 0, cells := 0, slots := 0, locals := 0 } : Room).cells ({ frames := 0, cells := 0, slots := 0, locals := 0 } : Room).slots) := by
  refine MetFree.of_bodySF (plainFor_of_name pn_12) hisR ?_
  intro p e s m args below meth c s₁ Bd hml0 hP hK
  obtain ⟨rfl, hZ, hh⟩ := hP
  have hx := Bd.exec
  have hby := Bd.bytes
  have hml : c.maxLocals = 1 := hml0
  have hown : s.vm.findClass "java/lang/String" = some m.cls := findClass_of_methodNamed Bd.named
  have hnm := (name_of_methodNamed Bd.named Bd.method).1
  have X0 : Stand p l e ({ frames := 0, cells := 0, slots := 0, locals := 0 } : Room) s m #[(.ref a1)] below meth c s₁ [] 0 0 := Stand.of_body Bd
  have e0 : s₁.heap = h0 := by rw [← hh, Bd.state]; rfl
  have N0 := Fr.nil n0
  refine Goes.via (next := s₁.setTop (mkF m 0 #[.val (.ref a1)] [])) (fun t k => castTop (ef_12 m a1) k) ?_
  obtain ⟨T1, X1, e1, st1⟩ := getS2 X0 hx hZ hown (host := "") (Or.inl (hw _ (List.mem_of_getElem? (i := 14) rfl))) Via.refl e0 (St.1.ext O0.2) (g := (mkF m 0 #[.val (.ref a1)] [])) rfl (hb hby d12_0)
  refine Goes.via st1 ?_
  show Goes p e below (T1.setTop (mkF m 3 #[.val (.ref a1)] [(.int w0)])) _
  have hc3_2 : ¬ (w0 = (0 : Int32)) := St.2
  refine Goes.via (fun t k => XS.ifNo X1.here hx rfl (hb hby d12_3) rfl ((if0 _ _).trans (feq hc3_2).1) k) ?_
  show Goes p e below (T1.setTop (mkF m 6 #[.val (.ref a1)] [])) _
  refine Goes.via (fun t k => XS.aloadN X1.here hx rfl (hb hby d12_6) rfl rfl k) ?_
  show Goes p e below (T1.setTop (mkF m 7 #[.val (.ref a1)] [(.ref a1)])) _
  obtain ⟨T3, X3, e3, st3⟩ := getF X1 hx hZ hown (host := "") (Or.inl (hw _ (List.mem_of_getElem? (i := 26) rfl))) Via.refl e1 Fc (g := (mkF m 7 #[.val (.ref a1)] [(.ref a1)])) rfl rfl (hb hby d12_7)
  refine Goes.via st3 ?_
  show Goes p e below (T3.setTop (mkF m 10 #[.val (.ref a1)] [(.int (0 : Int32))])) _
  refine Goes.via (fun t k => XS.goto X3.here hx rfl (pc0 := 10) (pc' := 14) rfl (hb hby d12_10) (by decide) (by decide) k) ?_
  show Goes p e below (T3.setTop (mkF m 14 #[.val (.ref a1)] [(.int (0 : Int32))])) _
  obtain ⟨fs, hr, hrun, hended, hW, hsame⟩ := X3.leave (v := some (.int (0 : Int32))) (fun h => by rw [Bd.returns] at h; cases h)
  refine ⟨_, _, ?_, hrun, hended, _, _, rfl, ?_, ⟨_, rfl⟩, hW, hsame.mono (by decide) (by decide)⟩
  · exact retN X3 hx (t := .byte) Bd.returns (by simp) (hb hby d12_14) hr
  · show Q12 Z  h0 n0 _ T3.heap _
    rw [e3]
    exact ⟨rfl, N0, rfl⟩
theorem d11_0_0 : decode jdk_42_method_54_code 0 = .ok (.aload_n 0, 1) := by decide +kernel
theorem d11_0_1 : decode jdk_42_method_54_code 1 = .ok (.getfield 9, 3) := by decide +kernel
theorem d11_0_4 : decode jdk_42_method_54_code 4 = .ok (.arraylength, 1) := by decide +kernel
theorem d11_0_5 : decode jdk_42_method_54_code 5 = .ok (.aload_n 0, 1) := by decide +kernel
theorem d11_0_6 : decode jdk_42_method_54_code 6 = .ok (.invokevirtual 335, 3) := by decide +kernel
theorem d11_0_9 : decode jdk_42_method_54_code 9 = .ok (.ishr, 1) := by decide +kernel
theorem d11_0_10 : decode jdk_42_method_54_code 10 = .ok (.ireturn, 1) := by decide +kernel
theorem pn_11_0 : plainName "java/lang/String" = true := by first | (simp [plainName, overriddenIn]; done) | decide +kernel
theorem pd_11_0_0 : parseMethodDescriptor "()B" = some ⟨[], some .byte⟩ := by decide +kernel
theorem ef_11_0 (m : MethodId) (x0 : Addr) : entryFrame m #[(.ref x0)] 1 = mkF m 0 #[.val (.ref x0)] [] := by first | (simp [entryFrame, mkF, argsToLocals, Value.category]; done) | rfl
def Q11_0 (Z : State) (h0 : Heap) (n0 : Nat) (v : Option Value) (h : Heap) (L : List Loc) : Prop := v = some (.int (0 : Int32)) ∧ Fr n0 L ∧ h = h0
set_option maxRecDepth 65536 in
set_option maxHeartbeats 40000000 in
theorem rm11_0 (l : Launch) (Z : State) (a0 : Array Value) (hw : ∀ d ∈ tables_1, d.before a0 Z = true) (ws : List Jvm.Cond) (a1 : Addr) (t1 : Addr) (k1 : ClassId) (vs : List Value) (w0 : Int32) (h0 : Heap) (n0 : Nat) (Z0 : n0 ≤ h0.size) (E1 : Exa Z h0 a1 "java/lang/String") (Fv : Fld Z h0 a1 "java/lang/String" "value" "[B" (.ref t1)) (Fc : Fld Z h0 a1 "java/lang/String" "coder" "B" (.int (0 : Int32))) (V1 : Arv Z h0 t1 k1 .byte (0 : Int32) vs (.int (0 : Int32))) (O0 : Old Z n0 h0) (St : own_St Z w0) :
    MetFree l (⟨"java/lang/String", "length", "()I"⟩ : MethodName) (head1 (Jvm.Cond.code (⟨"java/lang/String", "length", "()I"⟩ : MethodName) jdk_42_method_54_code 1 (some .int) :: ws) ({ frames := 1, cells := 0, slots := 0, locals := 13 } : Room)) (fun a U => a = #[(.ref a1)] ∧ Z.Warmed39 U.vm ∧ U.heap = h0) (fun _ _ _ _ _ => True) (fun _ U o U' => ∃ v L, o = .returned v ∧ Q11_0 Z  h0 n0 v U'.heap L ∧ FrameEnd U o U' L ({ frames := 1, cells := 0, slots := 0, locals := 13 } : Room).cells ({ frames := 1, cells := 0, slots := 0, locals := 13 } : Room).slots) := by
  refine MetFree.of_bodySF (plainFor_of_name pn_11_0) hisR ?_
  intro p e s m args below meth c s₁ Bd hml0 hP hK
  obtain ⟨rfl, hZ, hh⟩ := hP
  have hx := Bd.exec
  have hby := Bd.bytes
  have hml : c.maxLocals = 1 := hml0
  have hown : s.vm.findClass "java/lang/String" = some m.cls := findClass_of_methodNamed Bd.named
  have hnm := (name_of_methodNamed Bd.named Bd.method).1
  have X0 : Stand p l e ({ frames := 1, cells := 0, slots := 0, locals := 13 } : Room) s m #[(.ref a1)] below meth c s₁ [] 0 0 := Stand.of_body Bd
  have e0 : s₁.heap = h0 := by rw [← hh, Bd.state]; rfl
  have N0 := Fr.nil n0
  refine Goes.via (next := s₁.setTop (mkF m 0 #[.val (.ref a1)] [])) (fun t k => castTop (ef_11_0 m a1) k) ?_
  refine Goes.via (fun t k => XS.aloadN X0.here hx rfl (hb hby d11_0_0) rfl rfl k) ?_
  show Goes p e below (s₁.setTop (mkF m 1 #[.val (.ref a1)] [(.ref a1)])) _
  obtain ⟨T1, X1, e1, st1⟩ := getF X0 hx hZ hown (host := "") (Or.inl (hw _ (List.mem_of_getElem? (i := 28) rfl))) Via.refl e0 Fv (g := (mkF m 1 #[.val (.ref a1)] [(.ref a1)])) rfl rfl (hb hby d11_0_1)
  refine Goes.via st1 ?_
  show Goes p e below (T1.setTop (mkF m 4 #[.val (.ref a1)] [(.ref t1)])) _
  obtain ⟨cl2, Ar2, -, Sa2, Na2, -, -⟩ := id V1
  refine Goes.via (next := T1.setTop (mkF m 5 #[.val (.ref a1)] [(.int (0 : Int32))])) (fun t k => X1.arraylength hx (by rw [e1]; exact Ar2.1) (State.isArrayOf_alike hZ.alike Ar2.2.1) (g := (mkF m 4 #[.val (.ref a1)] [(.ref t1)])) rfl rfl (hb hby d11_0_4) _ (by rw [len_of Sa2 Na2]; exact k)) ?_
  show Goes p e below (T1.setTop (mkF m 5 #[.val (.ref a1)] [(.int (0 : Int32))])) _
  refine Goes.via (fun t k => XS.aloadN X1.here hx rfl (hb hby d11_0_5) rfl rfl k) ?_
  show Goes p e below (T1.setTop (mkF m 6 #[.val (.ref a1)] [(.ref a1), (.int (0 : Int32))])) _
  obtain ⟨cq3, kq3, q3a, q3b, q3c⟩ := isOf hZ e1 E1
  obtain ⟨_, _, ⟨T3, L3, k3, n3⟩, -, X3, ⟨Lc3, hQ3, l3, y3, z3⟩, st3⟩ := X1.virtualBack hx (y := (⟨"java/lang/String", "coder", "()B"⟩ : MethodName)) (z := (⟨"java/lang/String", "coder", "()B"⟩ : MethodName)) hown (mvT hZ (hw _ (List.mem_of_getElem? (i := 65) rfl))) (mvT hZ (hw _ (List.mem_of_getElem? (i := 66) rfl))) (notFace_of_selects (args := #[]) (mvT hZ (hw _ (List.mem_of_getElem? (i := 68) rfl)))) (mvT hZ (hw _ (List.mem_of_getElem? (i := 68) rfl))) (mvT hZ (hw _ (List.mem_of_getElem? (i := 67) rfl))) (by decide) (backOf (W := 1) (rm12 l Z a0 hw [] a1 w0 h0 n0 Z0 Fc O0 St) hZ (hw _ (List.mem_of_getElem? (i := 69) rfl)) (hw _ (List.mem_of_getElem? (i := 3) rfl)) (by decide) (by decide)) q3a q3c (g := (mkF m 6 #[.val (.ref a1)] [(.ref a1), (.int (0 : Int32))])) rfl (by rw [hml]; rfl) (Steps.refl _) (argsL := []) (rest := [(.int (0 : Int32))]) (lenOf pd_11_0_0 rfl) rfl (by show 2 * 0 + _ ≤ _; exact Nat.le_of_eq rfl) (hb hby d11_0_6) (fun _ _ => ⟨rfl, e1, (by decide : 0 + 0 ≤ _), (by decide : 0 + 0 ≤ _)⟩)
  dsimp only [Pt.U, Pt.locs, Pt.cells, Pt.slots] at X3 l3 y3 z3 st3 hQ3
  subst l3 y3 z3
  obtain ⟨rfl, N3q, er3⟩ := hQ3
  have e3 : T3.heap = h0 := er3
  have N3 := Fr.app N0 N3q
  refine Goes.via (fun t k => st3.trans k) ?_
  show Goes p e below (T3.setTop (mkF m 9 #[.val (.ref a1)] [(.int (0 : Int32)), (.int (0 : Int32))])) _
  refine Goes.via (fun t k => XS.ishr X3.here hx rfl (hb hby d11_0_9) rfl k) ?_
  show Goes p e below (T3.setTop (mkF m 10 #[.val (.ref a1)] [(.int (0 : Int32))])) _
  obtain ⟨fs, hr, hrun, hended, hW, hsame⟩ := X3.leave (v := some (.int (0 : Int32))) (fun h => by rw [Bd.returns] at h; cases h)
  refine ⟨_, _, ?_, hrun, hended, _, _, rfl, ?_, ⟨_, rfl⟩, hW, hsame.mono (by decide) (by decide)⟩
  · exact retI X3 hx Bd.returns (hb hby d11_0_10) hr
  · show Q11_0 Z  h0 n0 _ T3.heap _
    rw [e3]
    exact ⟨rfl, N3, rfl⟩
theorem d11_1_0 : decode jdk_42_method_54_code 0 = .ok (.aload_n 0, 1) := by decide +kernel
theorem d11_1_1 : decode jdk_42_method_54_code 1 = .ok (.getfield 9, 3) := by decide +kernel
theorem d11_1_4 : decode jdk_42_method_54_code 4 = .ok (.arraylength, 1) := by decide +kernel
theorem d11_1_5 : decode jdk_42_method_54_code 5 = .ok (.aload_n 0, 1) := by decide +kernel
theorem d11_1_6 : decode jdk_42_method_54_code 6 = .ok (.invokevirtual 335, 3) := by decide +kernel
theorem d11_1_9 : decode jdk_42_method_54_code 9 = .ok (.ishr, 1) := by decide +kernel
theorem d11_1_10 : decode jdk_42_method_54_code 10 = .ok (.ireturn, 1) := by decide +kernel
theorem pn_11_1 : plainName "java/lang/String" = true := by first | (simp [plainName, overriddenIn]; done) | decide +kernel
theorem pd_11_1_0 : parseMethodDescriptor "()B" = some ⟨[], some .byte⟩ := by decide +kernel
theorem ef_11_1 (m : MethodId) (x0 : Addr) : entryFrame m #[(.ref x0)] 1 = mkF m 0 #[.val (.ref x0)] [] := by first | (simp [entryFrame, mkF, argsToLocals, Value.category]; done) | rfl
def Q11_1 (Z : State) (h0 : Heap) (n0 : Nat) (v : Option Value) (h : Heap) (L : List Loc) : Prop := v = some (.int (1 : Int32)) ∧ Fr n0 L ∧ h = h0
set_option maxRecDepth 65536 in
set_option maxHeartbeats 40000000 in
theorem rm11_1 (l : Launch) (Z : State) (a0 : Array Value) (hw : ∀ d ∈ tables_1, d.before a0 Z = true) (ws : List Jvm.Cond) (a1 : Addr) (t1 : Addr) (k1 : ClassId) (vs : List Value) (w0 : Int32) (h0 : Heap) (n0 : Nat) (Z0 : n0 ≤ h0.size) (E1 : Exa Z h0 a1 "java/lang/String") (Fv : Fld Z h0 a1 "java/lang/String" "value" "[B" (.ref t1)) (Fc : Fld Z h0 a1 "java/lang/String" "coder" "B" (.int (0 : Int32))) (V1 : Arv Z h0 t1 k1 .byte (1 : Int32) vs (.int (0 : Int32))) (O0 : Old Z n0 h0) (St : own_St Z w0) :
    MetFree l (⟨"java/lang/String", "length", "()I"⟩ : MethodName) (head1 (Jvm.Cond.code (⟨"java/lang/String", "length", "()I"⟩ : MethodName) jdk_42_method_54_code 1 (some .int) :: ws) ({ frames := 1, cells := 0, slots := 0, locals := 13 } : Room)) (fun a U => a = #[(.ref a1)] ∧ Z.Warmed39 U.vm ∧ U.heap = h0) (fun _ _ _ _ _ => True) (fun _ U o U' => ∃ v L, o = .returned v ∧ Q11_1 Z  h0 n0 v U'.heap L ∧ FrameEnd U o U' L ({ frames := 1, cells := 0, slots := 0, locals := 13 } : Room).cells ({ frames := 1, cells := 0, slots := 0, locals := 13 } : Room).slots) := by
  refine MetFree.of_bodySF (plainFor_of_name pn_11_1) hisR ?_
  intro p e s m args below meth c s₁ Bd hml0 hP hK
  obtain ⟨rfl, hZ, hh⟩ := hP
  have hx := Bd.exec
  have hby := Bd.bytes
  have hml : c.maxLocals = 1 := hml0
  have hown : s.vm.findClass "java/lang/String" = some m.cls := findClass_of_methodNamed Bd.named
  have hnm := (name_of_methodNamed Bd.named Bd.method).1
  have X0 : Stand p l e ({ frames := 1, cells := 0, slots := 0, locals := 13 } : Room) s m #[(.ref a1)] below meth c s₁ [] 0 0 := Stand.of_body Bd
  have e0 : s₁.heap = h0 := by rw [← hh, Bd.state]; rfl
  have N0 := Fr.nil n0
  refine Goes.via (next := s₁.setTop (mkF m 0 #[.val (.ref a1)] [])) (fun t k => castTop (ef_11_1 m a1) k) ?_
  refine Goes.via (fun t k => XS.aloadN X0.here hx rfl (hb hby d11_1_0) rfl rfl k) ?_
  show Goes p e below (s₁.setTop (mkF m 1 #[.val (.ref a1)] [(.ref a1)])) _
  obtain ⟨T1, X1, e1, st1⟩ := getF X0 hx hZ hown (host := "") (Or.inl (hw _ (List.mem_of_getElem? (i := 28) rfl))) Via.refl e0 Fv (g := (mkF m 1 #[.val (.ref a1)] [(.ref a1)])) rfl rfl (hb hby d11_1_1)
  refine Goes.via st1 ?_
  show Goes p e below (T1.setTop (mkF m 4 #[.val (.ref a1)] [(.ref t1)])) _
  obtain ⟨cl2, Ar2, -, Sa2, Na2, -, -⟩ := id V1
  refine Goes.via (next := T1.setTop (mkF m 5 #[.val (.ref a1)] [(.int (1 : Int32))])) (fun t k => X1.arraylength hx (by rw [e1]; exact Ar2.1) (State.isArrayOf_alike hZ.alike Ar2.2.1) (g := (mkF m 4 #[.val (.ref a1)] [(.ref t1)])) rfl rfl (hb hby d11_1_4) _ (by rw [len_of Sa2 Na2]; exact k)) ?_
  show Goes p e below (T1.setTop (mkF m 5 #[.val (.ref a1)] [(.int (1 : Int32))])) _
  refine Goes.via (fun t k => XS.aloadN X1.here hx rfl (hb hby d11_1_5) rfl rfl k) ?_
  show Goes p e below (T1.setTop (mkF m 6 #[.val (.ref a1)] [(.ref a1), (.int (1 : Int32))])) _
  obtain ⟨cq3, kq3, q3a, q3b, q3c⟩ := isOf hZ e1 E1
  obtain ⟨_, _, ⟨T3, L3, k3, n3⟩, -, X3, ⟨Lc3, hQ3, l3, y3, z3⟩, st3⟩ := X1.virtualBack hx (y := (⟨"java/lang/String", "coder", "()B"⟩ : MethodName)) (z := (⟨"java/lang/String", "coder", "()B"⟩ : MethodName)) hown (mvT hZ (hw _ (List.mem_of_getElem? (i := 65) rfl))) (mvT hZ (hw _ (List.mem_of_getElem? (i := 66) rfl))) (notFace_of_selects (args := #[]) (mvT hZ (hw _ (List.mem_of_getElem? (i := 68) rfl)))) (mvT hZ (hw _ (List.mem_of_getElem? (i := 68) rfl))) (mvT hZ (hw _ (List.mem_of_getElem? (i := 67) rfl))) (by decide) (backOf (W := 1) (rm12 l Z a0 hw [] a1 w0 h0 n0 Z0 Fc O0 St) hZ (hw _ (List.mem_of_getElem? (i := 69) rfl)) (hw _ (List.mem_of_getElem? (i := 3) rfl)) (by decide) (by decide)) q3a q3c (g := (mkF m 6 #[.val (.ref a1)] [(.ref a1), (.int (1 : Int32))])) rfl (by rw [hml]; rfl) (Steps.refl _) (argsL := []) (rest := [(.int (1 : Int32))]) (lenOf pd_11_1_0 rfl) rfl (by show 2 * 0 + _ ≤ _; exact Nat.le_of_eq rfl) (hb hby d11_1_6) (fun _ _ => ⟨rfl, e1, (by decide : 0 + 0 ≤ _), (by decide : 0 + 0 ≤ _)⟩)
  dsimp only [Pt.U, Pt.locs, Pt.cells, Pt.slots] at X3 l3 y3 z3 st3 hQ3
  subst l3 y3 z3
  obtain ⟨rfl, N3q, er3⟩ := hQ3
  have e3 : T3.heap = h0 := er3
  have N3 := Fr.app N0 N3q
  refine Goes.via (fun t k => st3.trans k) ?_
  show Goes p e below (T3.setTop (mkF m 9 #[.val (.ref a1)] [(.int (0 : Int32)), (.int (1 : Int32))])) _
  refine Goes.via (fun t k => XS.ishr X3.here hx rfl (hb hby d11_1_9) rfl k) ?_
  show Goes p e below (T3.setTop (mkF m 10 #[.val (.ref a1)] [(.int (1 : Int32))])) _
  obtain ⟨fs, hr, hrun, hended, hW, hsame⟩ := X3.leave (v := some (.int (1 : Int32))) (fun h => by rw [Bd.returns] at h; cases h)
  refine ⟨_, _, ?_, hrun, hended, _, _, rfl, ?_, ⟨_, rfl⟩, hW, hsame.mono (by decide) (by decide)⟩
  · exact retI X3 hx Bd.returns (hb hby d11_1_10) hr
  · show Q11_1 Z  h0 n0 _ T3.heap _
    rw [e3]
    exact ⟨rfl, N3, rfl⟩
theorem d11_2_0 : decode jdk_42_method_54_code 0 = .ok (.aload_n 0, 1) := by decide +kernel
theorem d11_2_1 : decode jdk_42_method_54_code 1 = .ok (.getfield 9, 3) := by decide +kernel
theorem d11_2_4 : decode jdk_42_method_54_code 4 = .ok (.arraylength, 1) := by decide +kernel
theorem d11_2_5 : decode jdk_42_method_54_code 5 = .ok (.aload_n 0, 1) := by decide +kernel
theorem d11_2_6 : decode jdk_42_method_54_code 6 = .ok (.invokevirtual 335, 3) := by decide +kernel
theorem d11_2_9 : decode jdk_42_method_54_code 9 = .ok (.ishr, 1) := by decide +kernel
theorem d11_2_10 : decode jdk_42_method_54_code 10 = .ok (.ireturn, 1) := by decide +kernel
theorem pn_11_2 : plainName "java/lang/String" = true := by first | (simp [plainName, overriddenIn]; done) | decide +kernel
theorem pd_11_2_0 : parseMethodDescriptor "()B" = some ⟨[], some .byte⟩ := by decide +kernel
theorem ef_11_2 (m : MethodId) (x0 : Addr) : entryFrame m #[(.ref x0)] 1 = mkF m 0 #[.val (.ref x0)] [] := by first | (simp [entryFrame, mkF, argsToLocals, Value.category]; done) | rfl
def Q11_2 (Z : State) (h0 : Heap) (n0 : Nat) (v : Option Value) (h : Heap) (L : List Loc) : Prop := v = some (.int (2 : Int32)) ∧ Fr n0 L ∧ h = h0
set_option maxRecDepth 65536 in
set_option maxHeartbeats 40000000 in
theorem rm11_2 (l : Launch) (Z : State) (a0 : Array Value) (hw : ∀ d ∈ tables_1, d.before a0 Z = true) (ws : List Jvm.Cond) (a1 : Addr) (t1 : Addr) (k1 : ClassId) (vs : List Value) (w0 : Int32) (h0 : Heap) (n0 : Nat) (Z0 : n0 ≤ h0.size) (E1 : Exa Z h0 a1 "java/lang/String") (Fv : Fld Z h0 a1 "java/lang/String" "value" "[B" (.ref t1)) (Fc : Fld Z h0 a1 "java/lang/String" "coder" "B" (.int (0 : Int32))) (V1 : Arv Z h0 t1 k1 .byte (2 : Int32) vs (.int (0 : Int32))) (O0 : Old Z n0 h0) (St : own_St Z w0) :
    MetFree l (⟨"java/lang/String", "length", "()I"⟩ : MethodName) (head1 (Jvm.Cond.code (⟨"java/lang/String", "length", "()I"⟩ : MethodName) jdk_42_method_54_code 1 (some .int) :: ws) ({ frames := 1, cells := 0, slots := 0, locals := 13 } : Room)) (fun a U => a = #[(.ref a1)] ∧ Z.Warmed39 U.vm ∧ U.heap = h0) (fun _ _ _ _ _ => True) (fun _ U o U' => ∃ v L, o = .returned v ∧ Q11_2 Z  h0 n0 v U'.heap L ∧ FrameEnd U o U' L ({ frames := 1, cells := 0, slots := 0, locals := 13 } : Room).cells ({ frames := 1, cells := 0, slots := 0, locals := 13 } : Room).slots) := by
  refine MetFree.of_bodySF (plainFor_of_name pn_11_2) hisR ?_
  intro p e s m args below meth c s₁ Bd hml0 hP hK
  obtain ⟨rfl, hZ, hh⟩ := hP
  have hx := Bd.exec
  have hby := Bd.bytes
  have hml : c.maxLocals = 1 := hml0
  have hown : s.vm.findClass "java/lang/String" = some m.cls := findClass_of_methodNamed Bd.named
  have hnm := (name_of_methodNamed Bd.named Bd.method).1
  have X0 : Stand p l e ({ frames := 1, cells := 0, slots := 0, locals := 13 } : Room) s m #[(.ref a1)] below meth c s₁ [] 0 0 := Stand.of_body Bd
  have e0 : s₁.heap = h0 := by rw [← hh, Bd.state]; rfl
  have N0 := Fr.nil n0
  refine Goes.via (next := s₁.setTop (mkF m 0 #[.val (.ref a1)] [])) (fun t k => castTop (ef_11_2 m a1) k) ?_
  refine Goes.via (fun t k => XS.aloadN X0.here hx rfl (hb hby d11_2_0) rfl rfl k) ?_
  show Goes p e below (s₁.setTop (mkF m 1 #[.val (.ref a1)] [(.ref a1)])) _
  obtain ⟨T1, X1, e1, st1⟩ := getF X0 hx hZ hown (host := "") (Or.inl (hw _ (List.mem_of_getElem? (i := 28) rfl))) Via.refl e0 Fv (g := (mkF m 1 #[.val (.ref a1)] [(.ref a1)])) rfl rfl (hb hby d11_2_1)
  refine Goes.via st1 ?_
  show Goes p e below (T1.setTop (mkF m 4 #[.val (.ref a1)] [(.ref t1)])) _
  obtain ⟨cl2, Ar2, -, Sa2, Na2, -, -⟩ := id V1
  refine Goes.via (next := T1.setTop (mkF m 5 #[.val (.ref a1)] [(.int (2 : Int32))])) (fun t k => X1.arraylength hx (by rw [e1]; exact Ar2.1) (State.isArrayOf_alike hZ.alike Ar2.2.1) (g := (mkF m 4 #[.val (.ref a1)] [(.ref t1)])) rfl rfl (hb hby d11_2_4) _ (by rw [len_of Sa2 Na2]; exact k)) ?_
  show Goes p e below (T1.setTop (mkF m 5 #[.val (.ref a1)] [(.int (2 : Int32))])) _
  refine Goes.via (fun t k => XS.aloadN X1.here hx rfl (hb hby d11_2_5) rfl rfl k) ?_
  show Goes p e below (T1.setTop (mkF m 6 #[.val (.ref a1)] [(.ref a1), (.int (2 : Int32))])) _
  obtain ⟨cq3, kq3, q3a, q3b, q3c⟩ := isOf hZ e1 E1
  obtain ⟨_, _, ⟨T3, L3, k3, n3⟩, -, X3, ⟨Lc3, hQ3, l3, y3, z3⟩, st3⟩ := X1.virtualBack hx (y := (⟨"java/lang/String", "coder", "()B"⟩ : MethodName)) (z := (⟨"java/lang/String", "coder", "()B"⟩ : MethodName)) hown (mvT hZ (hw _ (List.mem_of_getElem? (i := 65) rfl))) (mvT hZ (hw _ (List.mem_of_getElem? (i := 66) rfl))) (notFace_of_selects (args := #[]) (mvT hZ (hw _ (List.mem_of_getElem? (i := 68) rfl)))) (mvT hZ (hw _ (List.mem_of_getElem? (i := 68) rfl))) (mvT hZ (hw _ (List.mem_of_getElem? (i := 67) rfl))) (by decide) (backOf (W := 1) (rm12 l Z a0 hw [] a1 w0 h0 n0 Z0 Fc O0 St) hZ (hw _ (List.mem_of_getElem? (i := 69) rfl)) (hw _ (List.mem_of_getElem? (i := 3) rfl)) (by decide) (by decide)) q3a q3c (g := (mkF m 6 #[.val (.ref a1)] [(.ref a1), (.int (2 : Int32))])) rfl (by rw [hml]; rfl) (Steps.refl _) (argsL := []) (rest := [(.int (2 : Int32))]) (lenOf pd_11_2_0 rfl) rfl (by show 2 * 0 + _ ≤ _; exact Nat.le_of_eq rfl) (hb hby d11_2_6) (fun _ _ => ⟨rfl, e1, (by decide : 0 + 0 ≤ _), (by decide : 0 + 0 ≤ _)⟩)
  dsimp only [Pt.U, Pt.locs, Pt.cells, Pt.slots] at X3 l3 y3 z3 st3 hQ3
  subst l3 y3 z3
  obtain ⟨rfl, N3q, er3⟩ := hQ3
  have e3 : T3.heap = h0 := er3
  have N3 := Fr.app N0 N3q
  refine Goes.via (fun t k => st3.trans k) ?_
  show Goes p e below (T3.setTop (mkF m 9 #[.val (.ref a1)] [(.int (0 : Int32)), (.int (2 : Int32))])) _
  refine Goes.via (fun t k => XS.ishr X3.here hx rfl (hb hby d11_2_9) rfl k) ?_
  show Goes p e below (T3.setTop (mkF m 10 #[.val (.ref a1)] [(.int (2 : Int32))])) _
  obtain ⟨fs, hr, hrun, hended, hW, hsame⟩ := X3.leave (v := some (.int (2 : Int32))) (fun h => by rw [Bd.returns] at h; cases h)
  refine ⟨_, _, ?_, hrun, hended, _, _, rfl, ?_, ⟨_, rfl⟩, hW, hsame.mono (by decide) (by decide)⟩
  · exact retI X3 hx Bd.returns (hb hby d11_2_10) hr
  · show Q11_2 Z  h0 n0 _ T3.heap _
    rw [e3]
    exact ⟨rfl, N3, rfl⟩
theorem d11_3_0 : decode jdk_42_method_54_code 0 = .ok (.aload_n 0, 1) := by decide +kernel
theorem d11_3_1 : decode jdk_42_method_54_code 1 = .ok (.getfield 9, 3) := by decide +kernel
theorem d11_3_4 : decode jdk_42_method_54_code 4 = .ok (.arraylength, 1) := by decide +kernel
theorem d11_3_5 : decode jdk_42_method_54_code 5 = .ok (.aload_n 0, 1) := by decide +kernel
theorem d11_3_6 : decode jdk_42_method_54_code 6 = .ok (.invokevirtual 335, 3) := by decide +kernel
theorem d11_3_9 : decode jdk_42_method_54_code 9 = .ok (.ishr, 1) := by decide +kernel
theorem d11_3_10 : decode jdk_42_method_54_code 10 = .ok (.ireturn, 1) := by decide +kernel
theorem pn_11_3 : plainName "java/lang/String" = true := by first | (simp [plainName, overriddenIn]; done) | decide +kernel
theorem pd_11_3_0 : parseMethodDescriptor "()B" = some ⟨[], some .byte⟩ := by decide +kernel
theorem ef_11_3 (m : MethodId) (x0 : Addr) : entryFrame m #[(.ref x0)] 1 = mkF m 0 #[.val (.ref x0)] [] := by first | (simp [entryFrame, mkF, argsToLocals, Value.category]; done) | rfl
def Q11_3 (Z : State) (h0 : Heap) (n0 : Nat) (v : Option Value) (h : Heap) (L : List Loc) : Prop := v = some (.int (3 : Int32)) ∧ Fr n0 L ∧ h = h0
set_option maxRecDepth 65536 in
set_option maxHeartbeats 40000000 in
theorem rm11_3 (l : Launch) (Z : State) (a0 : Array Value) (hw : ∀ d ∈ tables_1, d.before a0 Z = true) (ws : List Jvm.Cond) (a1 : Addr) (t1 : Addr) (k1 : ClassId) (vs : List Value) (w0 : Int32) (h0 : Heap) (n0 : Nat) (Z0 : n0 ≤ h0.size) (E1 : Exa Z h0 a1 "java/lang/String") (Fv : Fld Z h0 a1 "java/lang/String" "value" "[B" (.ref t1)) (Fc : Fld Z h0 a1 "java/lang/String" "coder" "B" (.int (0 : Int32))) (V1 : Arv Z h0 t1 k1 .byte (3 : Int32) vs (.int (0 : Int32))) (O0 : Old Z n0 h0) (St : own_St Z w0) :
    MetFree l (⟨"java/lang/String", "length", "()I"⟩ : MethodName) (head1 (Jvm.Cond.code (⟨"java/lang/String", "length", "()I"⟩ : MethodName) jdk_42_method_54_code 1 (some .int) :: ws) ({ frames := 1, cells := 0, slots := 0, locals := 13 } : Room)) (fun a U => a = #[(.ref a1)] ∧ Z.Warmed39 U.vm ∧ U.heap = h0) (fun _ _ _ _ _ => True) (fun _ U o U' => ∃ v L, o = .returned v ∧ Q11_3 Z  h0 n0 v U'.heap L ∧ FrameEnd U o U' L ({ frames := 1, cells := 0, slots := 0, locals := 13 } : Room).cells ({ frames := 1, cells := 0, slots := 0, locals := 13 } : Room).slots) := by
  refine MetFree.of_bodySF (plainFor_of_name pn_11_3) hisR ?_
  intro p e s m args below meth c s₁ Bd hml0 hP hK
  obtain ⟨rfl, hZ, hh⟩ := hP
  have hx := Bd.exec
  have hby := Bd.bytes
  have hml : c.maxLocals = 1 := hml0
  have hown : s.vm.findClass "java/lang/String" = some m.cls := findClass_of_methodNamed Bd.named
  have hnm := (name_of_methodNamed Bd.named Bd.method).1
  have X0 : Stand p l e ({ frames := 1, cells := 0, slots := 0, locals := 13 } : Room) s m #[(.ref a1)] below meth c s₁ [] 0 0 := Stand.of_body Bd
  have e0 : s₁.heap = h0 := by rw [← hh, Bd.state]; rfl
  have N0 := Fr.nil n0
  refine Goes.via (next := s₁.setTop (mkF m 0 #[.val (.ref a1)] [])) (fun t k => castTop (ef_11_3 m a1) k) ?_
  refine Goes.via (fun t k => XS.aloadN X0.here hx rfl (hb hby d11_3_0) rfl rfl k) ?_
  show Goes p e below (s₁.setTop (mkF m 1 #[.val (.ref a1)] [(.ref a1)])) _
  obtain ⟨T1, X1, e1, st1⟩ := getF X0 hx hZ hown (host := "") (Or.inl (hw _ (List.mem_of_getElem? (i := 28) rfl))) Via.refl e0 Fv (g := (mkF m 1 #[.val (.ref a1)] [(.ref a1)])) rfl rfl (hb hby d11_3_1)
  refine Goes.via st1 ?_
  show Goes p e below (T1.setTop (mkF m 4 #[.val (.ref a1)] [(.ref t1)])) _
  obtain ⟨cl2, Ar2, -, Sa2, Na2, -, -⟩ := id V1
  refine Goes.via (next := T1.setTop (mkF m 5 #[.val (.ref a1)] [(.int (3 : Int32))])) (fun t k => X1.arraylength hx (by rw [e1]; exact Ar2.1) (State.isArrayOf_alike hZ.alike Ar2.2.1) (g := (mkF m 4 #[.val (.ref a1)] [(.ref t1)])) rfl rfl (hb hby d11_3_4) _ (by rw [len_of Sa2 Na2]; exact k)) ?_
  show Goes p e below (T1.setTop (mkF m 5 #[.val (.ref a1)] [(.int (3 : Int32))])) _
  refine Goes.via (fun t k => XS.aloadN X1.here hx rfl (hb hby d11_3_5) rfl rfl k) ?_
  show Goes p e below (T1.setTop (mkF m 6 #[.val (.ref a1)] [(.ref a1), (.int (3 : Int32))])) _
  obtain ⟨cq3, kq3, q3a, q3b, q3c⟩ := isOf hZ e1 E1
  obtain ⟨_, _, ⟨T3, L3, k3, n3⟩, -, X3, ⟨Lc3, hQ3, l3, y3, z3⟩, st3⟩ := X1.virtualBack hx (y := (⟨"java/lang/String", "coder", "()B"⟩ : MethodName)) (z := (⟨"java/lang/String", "coder", "()B"⟩ : MethodName)) hown (mvT hZ (hw _ (List.mem_of_getElem? (i := 65) rfl))) (mvT hZ (hw _ (List.mem_of_getElem? (i := 66) rfl))) (notFace_of_selects (args := #[]) (mvT hZ (hw _ (List.mem_of_getElem? (i := 68) rfl)))) (mvT hZ (hw _ (List.mem_of_getElem? (i := 68) rfl))) (mvT hZ (hw _ (List.mem_of_getElem? (i := 67) rfl))) (by decide) (backOf (W := 1) (rm12 l Z a0 hw [] a1 w0 h0 n0 Z0 Fc O0 St) hZ (hw _ (List.mem_of_getElem? (i := 69) rfl)) (hw _ (List.mem_of_getElem? (i := 3) rfl)) (by decide) (by decide)) q3a q3c (g := (mkF m 6 #[.val (.ref a1)] [(.ref a1), (.int (3 : Int32))])) rfl (by rw [hml]; rfl) (Steps.refl _) (argsL := []) (rest := [(.int (3 : Int32))]) (lenOf pd_11_3_0 rfl) rfl (by show 2 * 0 + _ ≤ _; exact Nat.le_of_eq rfl) (hb hby d11_3_6) (fun _ _ => ⟨rfl, e1, (by decide : 0 + 0 ≤ _), (by decide : 0 + 0 ≤ _)⟩)
  dsimp only [Pt.U, Pt.locs, Pt.cells, Pt.slots] at X3 l3 y3 z3 st3 hQ3
  subst l3 y3 z3
  obtain ⟨rfl, N3q, er3⟩ := hQ3
  have e3 : T3.heap = h0 := er3
  have N3 := Fr.app N0 N3q
  refine Goes.via (fun t k => st3.trans k) ?_
  show Goes p e below (T3.setTop (mkF m 9 #[.val (.ref a1)] [(.int (0 : Int32)), (.int (3 : Int32))])) _
  refine Goes.via (fun t k => XS.ishr X3.here hx rfl (hb hby d11_3_9) rfl k) ?_
  show Goes p e below (T3.setTop (mkF m 10 #[.val (.ref a1)] [(.int (3 : Int32))])) _
  obtain ⟨fs, hr, hrun, hended, hW, hsame⟩ := X3.leave (v := some (.int (3 : Int32))) (fun h => by rw [Bd.returns] at h; cases h)
  refine ⟨_, _, ?_, hrun, hended, _, _, rfl, ?_, ⟨_, rfl⟩, hW, hsame.mono (by decide) (by decide)⟩
  · exact retI X3 hx Bd.returns (hb hby d11_3_10) hr
  · show Q11_3 Z  h0 n0 _ T3.heap _
    rw [e3]
    exact ⟨rfl, N3, rfl⟩
theorem d7_0_0 : decode method_3_code 0 = .ok (.iload_n 1, 1) := by decide +kernel
theorem d7_0_1 : decode method_3_code 1 = .ok (.sipush 255, 3) := by decide +kernel
theorem d7_0_4 : decode method_3_code 4 = .ok (.iand, 1) := by decide +kernel
theorem d7_0_5 : decode method_3_code 5 = .ok (.i2c, 1) := by decide +kernel
theorem d7_0_6 : decode method_3_code 6 = .ok (.istore_n 2, 1) := by decide +kernel
theorem d7_0_7 : decode method_3_code 7 = .ok (.iload_n 1, 1) := by decide +kernel
theorem d7_0_8 : decode method_3_code 8 = .ok (.bipush 8, 2) := by decide +kernel
theorem d7_0_10 : decode method_3_code 10 = .ok (.iushr, 1) := by decide +kernel
theorem d7_0_11 : decode method_3_code 11 = .ok (.sipush 255, 3) := by decide +kernel
theorem d7_0_14 : decode method_3_code 14 = .ok (.iand, 1) := by decide +kernel
theorem d7_0_15 : decode method_3_code 15 = .ok (.i2c, 1) := by decide +kernel
theorem d7_0_16 : decode method_3_code 16 = .ok (.istore_n 3, 1) := by decide +kernel
theorem d7_0_17 : decode method_3_code 17 = .ok (.iload_n 1, 1) := by decide +kernel
theorem d7_0_18 : decode method_3_code 18 = .ok (.bipush 16, 2) := by decide +kernel
theorem d7_0_20 : decode method_3_code 20 = .ok (.iushr, 1) := by decide +kernel
theorem d7_0_21 : decode method_3_code 21 = .ok (.sipush 255, 3) := by decide +kernel
theorem d7_0_24 : decode method_3_code 24 = .ok (.iand, 1) := by decide +kernel
theorem d7_0_25 : decode method_3_code 25 = .ok (.i2c, 1) := by decide +kernel
theorem d7_0_26 : decode method_3_code 26 = .ok (.istore 4, 2) := by decide +kernel
theorem d7_0_28 : decode method_3_code 28 = .ok (.iload_n 0, 1) := by decide +kernel
theorem d7_0_29 : decode method_3_code 29 = .ok (.ifCond .ne 14, 3) := by decide +kernel
theorem d7_0_32 : decode method_3_code 32 = .ok (.new 7, 3) := by decide +kernel
theorem d7_0_35 : decode method_3_code 35 = .ok (.dup, 1) := by decide +kernel
theorem d7_0_36 : decode method_3_code 36 = .ok (.iconst 0, 1) := by decide +kernel
theorem d7_0_37 : decode method_3_code 37 = .ok (.newarray .char, 2) := by decide +kernel
theorem d7_0_39 : decode method_3_code 39 = .ok (.invokespecial 9, 3) := by decide +kernel
theorem d7_0_42 : decode method_3_code 42 = .ok (.areturn, 1) := by decide +kernel
theorem pn_7_0 : plainName "com/example/beforehand/beforehand/TextPartLengthPinLaw" = true := by first | (simp [plainName, overriddenIn]; done) | decide +kernel
theorem pd_7_0_0 : parseMethodDescriptor "([C)V" = some ⟨[(.array .char)], none⟩ := by decide +kernel
theorem ef_7_0 (m : MethodId) (x1 : Int32) : entryFrame m #[(.int (0 : Int32)), (.int x1)] 5 = mkF m 0 #[.val (.int (0 : Int32)), .val (.int x1), .unset, .unset, .unset] [] := by first | (simp [entryFrame, mkF, argsToLocals, Value.category]; done) | rfl
def Q7_0 (Z : State) (h0 : Heap) (n0 : Nat) (v : Option Value) (h : Heap) (vm : Vm) (L : List Loc) : Prop := ∃ (r t : Addr) (k : ClassId) (vs : List Value), v = some (.ref r) ∧ Fr n0 L ∧ Keep h0 h [] ∧ Exa Z h r "java/lang/String" ∧ Fld Z h r "java/lang/String" "coder" "B" (.int (0 : Int32)) ∧ Fld Z h r "java/lang/String" "value" "[B" (.ref t) ∧ Arv Z h t k .byte (0 : Int32) vs (.int (0 : Int32))
set_option maxRecDepth 65536 in
set_option maxHeartbeats 40000000 in
theorem rm7_0 (l : Launch) (Z : State) (a0 : Array Value) (hw : ∀ d ∈ tables_1, d.before a0 Z = true) (ws : List Jvm.Cond) (p2 : Int32) (w0 : Int32) (h0 : Heap) (n0 : Nat) (Z0 : n0 ≤ h0.size) (O0 : Old Z n0 h0) (St : own_St Z w0) (hcH : Jvm.Lit.constHeld Z "java/lang/String" 7) (hcw : Jvm.Lit.compactW.before a0 Z = true) :
    MetFree l (⟨"com/example/beforehand/beforehand/TextPartLengthPinLaw", "makeAfter", "(II)Ljava/lang/String;"⟩ : MethodName) (head1 (Jvm.Cond.code (⟨"com/example/beforehand/beforehand/TextPartLengthPinLaw", "makeAfter", "(II)Ljava/lang/String;"⟩ : MethodName) method_3_code 5 (some (.object "java/lang/String")) :: ws) ({ frames := 3, cells := 4, slots := 8, locals := 43 } : Room)) (fun a U => a = #[(.int (0 : Int32)), (.int p2)] ∧ Z.Warmed39 U.vm ∧ U.heap = h0 ∧ IB Z U.vm []) (fun _ _ _ _ _ => True) (fun _ U o U' => ∃ v L, o = .returned v ∧ Q7_0 Z  h0 n0 v U'.heap U'.vm L ∧ ReturnedEndW U o U' L ({ frames := 3, cells := 4, slots := 8, locals := 43 } : Room).cells ({ frames := 3, cells := 4, slots := 8, locals := 43 } : Room).slots) := by
  refine MetFree.of_bodySF (plainFor_of_name pn_7_0) hisR ?_
  intro p e s m args below meth c s₁ Bd hml0 hP hK
  obtain ⟨rfl, hZ, hh, hI⟩ := hP
  have hx := Bd.exec
  have hby := Bd.bytes
  have hml : c.maxLocals = 5 := hml0
  have hown : s.vm.findClass "com/example/beforehand/beforehand/TextPartLengthPinLaw" = some m.cls := findClass_of_methodNamed Bd.named
  have hnm := (name_of_methodNamed Bd.named Bd.method).1
  have X0 : Stand p l e ({ frames := 3, cells := 4, slots := 8, locals := 43 } : Room) (s.setVm s.vm) m #[(.int (0 : Int32)), (.int p2)] below meth c s₁ [] 0 0 := Stand.of_body Bd
  have e0 : s₁.heap = h0 := by rw [← hh, Bd.state]; rfl
  have N0 := Fr.nil n0
  have hS : s.Since s.vm 0 := (State.WarmedH.refl s).since 0
  have hk : 0 ≤ h0.size := Nat.zero_le _
  refine Goes.via (next := s₁.setTop (mkF m 0 #[.val (.int (0 : Int32)), .val (.int p2), .unset, .unset, .unset] [])) (fun t k => castTop (ef_7_0 m p2) k) ?_
  refine Goes.via (fun t k => XS.iloadN X0.here hx rfl (hb hby d7_0_0) rfl k) ?_
  show Goes p e below (s₁.setTop (mkF m 1 #[.val (.int (0 : Int32)), .val (.int p2), .unset, .unset, .unset] [(.int p2)])) _
  refine Goes.via (fun t k => XS.sipush X0.here hx rfl (hb hby d7_0_1) k) ?_
  show Goes p e below (s₁.setTop (mkF m 4 #[.val (.int (0 : Int32)), .val (.int p2), .unset, .unset, .unset] [(.int (255 : Int32)), (.int p2)])) _
  refine Goes.via (fun t k => XS.iand X0.here hx rfl (hb hby d7_0_4) rfl k) ?_
  show Goes p e below (s₁.setTop (mkF m 5 #[.val (.int (0 : Int32)), .val (.int p2), .unset, .unset, .unset] [(.int (p2 &&& (255 : Int32)))])) _
  refine Goes.via (fun t k => XS.i2c X0.here hx rfl (hb hby d7_0_5) rfl k) ?_
  show Goes p e below (s₁.setTop (mkF m 6 #[.val (.int (0 : Int32)), .val (.int p2), .unset, .unset, .unset] [(.int ((p2 &&& (255 : Int32)).toUInt32.toUInt16.toUInt32.toInt32))])) _
  refine Goes.via (fun t k => XS.istoreN X0.here hx rfl (hb hby d7_0_6) rfl (l' := #[.val (.int (0 : Int32)), .val (.int p2), .val (.int ((p2 &&& (255 : Int32)).toUInt32.toUInt16.toUInt32.toInt32)), .unset, .unset]) rfl k) ?_
  show Goes p e below (s₁.setTop (mkF m 7 #[.val (.int (0 : Int32)), .val (.int p2), .val (.int ((p2 &&& (255 : Int32)).toUInt32.toUInt16.toUInt32.toInt32)), .unset, .unset] [])) _
  refine Goes.via (fun t k => XS.iloadN X0.here hx rfl (hb hby d7_0_7) rfl k) ?_
  show Goes p e below (s₁.setTop (mkF m 8 #[.val (.int (0 : Int32)), .val (.int p2), .val (.int ((p2 &&& (255 : Int32)).toUInt32.toUInt16.toUInt32.toInt32)), .unset, .unset] [(.int p2)])) _
  refine Goes.via (fun t k => XS.bipush X0.here hx rfl (hb hby d7_0_8) k) ?_
  show Goes p e below (s₁.setTop (mkF m 10 #[.val (.int (0 : Int32)), .val (.int p2), .val (.int ((p2 &&& (255 : Int32)).toUInt32.toUInt16.toUInt32.toInt32)), .unset, .unset] [(.int (8 : Int32)), (.int p2)])) _
  refine Goes.via (fun t k => XS.iushr X0.here hx rfl (hb hby d7_0_10) rfl k) ?_
  show Goes p e below (s₁.setTop (mkF m 11 #[.val (.int (0 : Int32)), .val (.int p2), .val (.int ((p2 &&& (255 : Int32)).toUInt32.toUInt16.toUInt32.toInt32)), .unset, .unset] [(.int ((p2.toUInt32 >>> ((8 : Int32) &&& 31).toUInt32).toInt32))])) _
  refine Goes.via (fun t k => XS.sipush X0.here hx rfl (hb hby d7_0_11) k) ?_
  show Goes p e below (s₁.setTop (mkF m 14 #[.val (.int (0 : Int32)), .val (.int p2), .val (.int ((p2 &&& (255 : Int32)).toUInt32.toUInt16.toUInt32.toInt32)), .unset, .unset] [(.int (255 : Int32)), (.int ((p2.toUInt32 >>> ((8 : Int32) &&& 31).toUInt32).toInt32))])) _
  refine Goes.via (fun t k => XS.iand X0.here hx rfl (hb hby d7_0_14) rfl k) ?_
  show Goes p e below (s₁.setTop (mkF m 15 #[.val (.int (0 : Int32)), .val (.int p2), .val (.int ((p2 &&& (255 : Int32)).toUInt32.toUInt16.toUInt32.toInt32)), .unset, .unset] [(.int (((p2.toUInt32 >>> ((8 : Int32) &&& 31).toUInt32).toInt32) &&& (255 : Int32)))])) _
  refine Goes.via (fun t k => XS.i2c X0.here hx rfl (hb hby d7_0_15) rfl k) ?_
  show Goes p e below (s₁.setTop (mkF m 16 #[.val (.int (0 : Int32)), .val (.int p2), .val (.int ((p2 &&& (255 : Int32)).toUInt32.toUInt16.toUInt32.toInt32)), .unset, .unset] [(.int ((((p2.toUInt32 >>> ((8 : Int32) &&& 31).toUInt32).toInt32) &&& (255 : Int32)).toUInt32.toUInt16.toUInt32.toInt32))])) _
  refine Goes.via (fun t k => XS.istoreN X0.here hx rfl (hb hby d7_0_16) rfl (l' := #[.val (.int (0 : Int32)), .val (.int p2), .val (.int ((p2 &&& (255 : Int32)).toUInt32.toUInt16.toUInt32.toInt32)), .val (.int ((((p2.toUInt32 >>> ((8 : Int32) &&& 31).toUInt32).toInt32) &&& (255 : Int32)).toUInt32.toUInt16.toUInt32.toInt32)), .unset]) rfl k) ?_
  show Goes p e below (s₁.setTop (mkF m 17 #[.val (.int (0 : Int32)), .val (.int p2), .val (.int ((p2 &&& (255 : Int32)).toUInt32.toUInt16.toUInt32.toInt32)), .val (.int ((((p2.toUInt32 >>> ((8 : Int32) &&& 31).toUInt32).toInt32) &&& (255 : Int32)).toUInt32.toUInt16.toUInt32.toInt32)), .unset] [])) _
  refine Goes.via (fun t k => XS.iloadN X0.here hx rfl (hb hby d7_0_17) rfl k) ?_
  show Goes p e below (s₁.setTop (mkF m 18 #[.val (.int (0 : Int32)), .val (.int p2), .val (.int ((p2 &&& (255 : Int32)).toUInt32.toUInt16.toUInt32.toInt32)), .val (.int ((((p2.toUInt32 >>> ((8 : Int32) &&& 31).toUInt32).toInt32) &&& (255 : Int32)).toUInt32.toUInt16.toUInt32.toInt32)), .unset] [(.int p2)])) _
  refine Goes.via (fun t k => XS.bipush X0.here hx rfl (hb hby d7_0_18) k) ?_
  show Goes p e below (s₁.setTop (mkF m 20 #[.val (.int (0 : Int32)), .val (.int p2), .val (.int ((p2 &&& (255 : Int32)).toUInt32.toUInt16.toUInt32.toInt32)), .val (.int ((((p2.toUInt32 >>> ((8 : Int32) &&& 31).toUInt32).toInt32) &&& (255 : Int32)).toUInt32.toUInt16.toUInt32.toInt32)), .unset] [(.int (16 : Int32)), (.int p2)])) _
  refine Goes.via (fun t k => XS.iushr X0.here hx rfl (hb hby d7_0_20) rfl k) ?_
  show Goes p e below (s₁.setTop (mkF m 21 #[.val (.int (0 : Int32)), .val (.int p2), .val (.int ((p2 &&& (255 : Int32)).toUInt32.toUInt16.toUInt32.toInt32)), .val (.int ((((p2.toUInt32 >>> ((8 : Int32) &&& 31).toUInt32).toInt32) &&& (255 : Int32)).toUInt32.toUInt16.toUInt32.toInt32)), .unset] [(.int ((p2.toUInt32 >>> ((16 : Int32) &&& 31).toUInt32).toInt32))])) _
  refine Goes.via (fun t k => XS.sipush X0.here hx rfl (hb hby d7_0_21) k) ?_
  show Goes p e below (s₁.setTop (mkF m 24 #[.val (.int (0 : Int32)), .val (.int p2), .val (.int ((p2 &&& (255 : Int32)).toUInt32.toUInt16.toUInt32.toInt32)), .val (.int ((((p2.toUInt32 >>> ((8 : Int32) &&& 31).toUInt32).toInt32) &&& (255 : Int32)).toUInt32.toUInt16.toUInt32.toInt32)), .unset] [(.int (255 : Int32)), (.int ((p2.toUInt32 >>> ((16 : Int32) &&& 31).toUInt32).toInt32))])) _
  refine Goes.via (fun t k => XS.iand X0.here hx rfl (hb hby d7_0_24) rfl k) ?_
  show Goes p e below (s₁.setTop (mkF m 25 #[.val (.int (0 : Int32)), .val (.int p2), .val (.int ((p2 &&& (255 : Int32)).toUInt32.toUInt16.toUInt32.toInt32)), .val (.int ((((p2.toUInt32 >>> ((8 : Int32) &&& 31).toUInt32).toInt32) &&& (255 : Int32)).toUInt32.toUInt16.toUInt32.toInt32)), .unset] [(.int (((p2.toUInt32 >>> ((16 : Int32) &&& 31).toUInt32).toInt32) &&& (255 : Int32)))])) _
  refine Goes.via (fun t k => XS.i2c X0.here hx rfl (hb hby d7_0_25) rfl k) ?_
  show Goes p e below (s₁.setTop (mkF m 26 #[.val (.int (0 : Int32)), .val (.int p2), .val (.int ((p2 &&& (255 : Int32)).toUInt32.toUInt16.toUInt32.toInt32)), .val (.int ((((p2.toUInt32 >>> ((8 : Int32) &&& 31).toUInt32).toInt32) &&& (255 : Int32)).toUInt32.toUInt16.toUInt32.toInt32)), .unset] [(.int ((((p2.toUInt32 >>> ((16 : Int32) &&& 31).toUInt32).toInt32) &&& (255 : Int32)).toUInt32.toUInt16.toUInt32.toInt32))])) _
  refine Goes.via (fun t k => XS.istore X0.here hx rfl (hb hby d7_0_26) rfl (l' := #[.val (.int (0 : Int32)), .val (.int p2), .val (.int ((p2 &&& (255 : Int32)).toUInt32.toUInt16.toUInt32.toInt32)), .val (.int ((((p2.toUInt32 >>> ((8 : Int32) &&& 31).toUInt32).toInt32) &&& (255 : Int32)).toUInt32.toUInt16.toUInt32.toInt32)), .val (.int ((((p2.toUInt32 >>> ((16 : Int32) &&& 31).toUInt32).toInt32) &&& (255 : Int32)).toUInt32.toUInt16.toUInt32.toInt32))]) rfl k) ?_
  show Goes p e below (s₁.setTop (mkF m 28 #[.val (.int (0 : Int32)), .val (.int p2), .val (.int ((p2 &&& (255 : Int32)).toUInt32.toUInt16.toUInt32.toInt32)), .val (.int ((((p2.toUInt32 >>> ((8 : Int32) &&& 31).toUInt32).toInt32) &&& (255 : Int32)).toUInt32.toUInt16.toUInt32.toInt32)), .val (.int ((((p2.toUInt32 >>> ((16 : Int32) &&& 31).toUInt32).toInt32) &&& (255 : Int32)).toUInt32.toUInt16.toUInt32.toInt32))] [])) _
  refine Goes.via (fun t k => XS.iloadN X0.here hx rfl (hb hby d7_0_28) rfl k) ?_
  show Goes p e below (s₁.setTop (mkF m 29 #[.val (.int (0 : Int32)), .val (.int p2), .val (.int ((p2 &&& (255 : Int32)).toUInt32.toUInt16.toUInt32.toInt32)), .val (.int ((((p2.toUInt32 >>> ((8 : Int32) &&& 31).toUInt32).toInt32) &&& (255 : Int32)).toUInt32.toUInt16.toUInt32.toInt32)), .val (.int ((((p2.toUInt32 >>> ((16 : Int32) &&& 31).toUInt32).toInt32) &&& (255 : Int32)).toUInt32.toUInt16.toUInt32.toInt32))] [(.int (0 : Int32))])) _
  refine Goes.via (fun t k => XS.ifNo X0.here hx rfl (hb hby d7_0_29) rfl ((if0 _ _).trans (teq (show (0 : Int32) = (0 : Int32) from rfl)).2) k) ?_
  show Goes p e below (s₁.setTop (mkF m 32 #[.val (.int (0 : Int32)), .val (.int p2), .val (.int ((p2 &&& (255 : Int32)).toUInt32.toUInt16.toUInt32.toInt32)), .val (.int ((((p2.toUInt32 >>> ((8 : Int32) &&& 31).toUInt32).toInt32) &&& (255 : Int32)).toUInt32.toUInt16.toUInt32.toInt32)), .val (.int ((((p2.toUInt32 >>> ((16 : Int32) &&& 31).toUInt32).toInt32) &&& (255 : Int32)).toUInt32.toUInt16.toUInt32.toInt32))] [])) _
  obtain ⟨T1, h1, X1, e1, E1, A1, D1, -, st1⟩ := newO X0 hx hZ hown (hw _ (List.mem_of_getElem? (i := 1) rfl)) (hw _ (List.mem_of_getElem? (i := 2) rfl)) (hw _ (List.mem_of_getElem? (i := 3) rfl)) e0 (g := (mkF m 32 #[.val (.int (0 : Int32)), .val (.int p2), .val (.int ((p2 &&& (255 : Int32)).toUInt32.toUInt16.toUInt32.toInt32)), .val (.int ((((p2.toUInt32 >>> ((8 : Int32) &&& 31).toUInt32).toInt32) &&& (255 : Int32)).toUInt32.toUInt16.toUInt32.toInt32)), .val (.int ((((p2.toUInt32 >>> ((16 : Int32) &&& 31).toUInt32).toInt32) &&& (255 : Int32)).toUInt32.toUInt16.toUInt32.toInt32))] [])) rfl (hb hby d7_0_32) (by decide) (by decide)
  obtain ⟨b1, g1⟩ : ∃ z, z = h0.size := ⟨_, rfl⟩
  rw [← g1] at A1 D1 st1
  have ge_b1 : n0 ≤ b1 := Nat.le_trans Z0 (Nat.le_of_eq g1.symm)
  have sz_b1 : h0.size ≤ b1 := Nat.le_trans (Keep.refl h0 []).1 (Nat.le_of_eq g1.symm)
  have K1 : Keep h0 h1 [] := (Keep.refl h0 []).ext E1
  have Z1 : n0 ≤ h1.size := Nat.le_trans Z0 E1.1
  have O1 := O0.ext E1
  have hk := Nat.le_trans hk E1.1
  have F1_coder : Fld Z h1 b1 "java/lang/String" "coder" "B" (.int (0 : Int32)) := D1 (Or.inr (hw _ (List.mem_of_getElem? (i := 27) rfl))) (ty := .byte) (by decide)
  have F1_value : Fld Z h1 b1 "java/lang/String" "value" "[B" .null := D1 (Or.inr (hw _ (List.mem_of_getElem? (i := 29) rfl))) (ty := (.array .byte)) (by decide)
  refine Goes.via st1 ?_
  show Goes p e below (T1.setTop (mkF m 35 #[.val (.int (0 : Int32)), .val (.int p2), .val (.int ((p2 &&& (255 : Int32)).toUInt32.toUInt16.toUInt32.toInt32)), .val (.int ((((p2.toUInt32 >>> ((8 : Int32) &&& 31).toUInt32).toInt32) &&& (255 : Int32)).toUInt32.toUInt16.toUInt32.toInt32)), .val (.int ((((p2.toUInt32 >>> ((16 : Int32) &&& 31).toUInt32).toInt32) &&& (255 : Int32)).toUInt32.toUInt16.toUInt32.toInt32))] [(.ref b1)])) _
  refine Goes.via (fun t k => XS.dup X1.here hx rfl (hb hby d7_0_35) rfl rfl k) ?_
  show Goes p e below (T1.setTop (mkF m 36 #[.val (.int (0 : Int32)), .val (.int p2), .val (.int ((p2 &&& (255 : Int32)).toUInt32.toUInt16.toUInt32.toInt32)), .val (.int ((((p2.toUInt32 >>> ((8 : Int32) &&& 31).toUInt32).toInt32) &&& (255 : Int32)).toUInt32.toUInt16.toUInt32.toInt32)), .val (.int ((((p2.toUInt32 >>> ((16 : Int32) &&& 31).toUInt32).toInt32) &&& (255 : Int32)).toUInt32.toUInt16.toUInt32.toInt32))] [(.ref b1), (.ref b1)])) _
  refine Goes.via (fun t k => XS.iconst X1.here hx rfl (hb hby d7_0_36) k) ?_
  show Goes p e below (T1.setTop (mkF m 37 #[.val (.int (0 : Int32)), .val (.int p2), .val (.int ((p2 &&& (255 : Int32)).toUInt32.toUInt16.toUInt32.toInt32)), .val (.int ((((p2.toUInt32 >>> ((8 : Int32) &&& 31).toUInt32).toInt32) &&& (255 : Int32)).toUInt32.toUInt16.toUInt32.toInt32)), .val (.int ((((p2.toUInt32 >>> ((16 : Int32) &&& 31).toUInt32).toInt32) &&& (255 : Int32)).toUInt32.toUInt16.toUInt32.toInt32))] [(.int (0 : Int32)), (.ref b1), (.ref b1)])) _
  obtain ⟨T2, h2, ka2, X2, e2, E2, A2, st2⟩ := newP X1 hx hZ (hw _ (List.mem_of_getElem? (i := 0) rfl)) e1 (g := (mkF m 37 #[.val (.int (0 : Int32)), .val (.int p2), .val (.int ((p2 &&& (255 : Int32)).toUInt32.toUInt16.toUInt32.toInt32)), .val (.int ((((p2.toUInt32 >>> ((8 : Int32) &&& 31).toUInt32).toInt32) &&& (255 : Int32)).toUInt32.toUInt16.toUInt32.toInt32)), .val (.int ((((p2.toUInt32 >>> ((16 : Int32) &&& 31).toUInt32).toInt32) &&& (255 : Int32)).toUInt32.toUInt16.toUInt32.toInt32))] [(.int (0 : Int32)), (.ref b1), (.ref b1)])) rfl (hb hby d7_0_37) rfl (by decide) (cap := 0) (by decide) (by decide) (by decide) (by decide)
  obtain ⟨b2, g2⟩ : ∃ z, z = h1.size := ⟨_, rfl⟩
  rw [← g2] at A2 st2
  have lt_b1_b2 : b1 < b2 := Nat.lt_of_lt_of_le A1.lt (Nat.le_of_eq g2.symm)
  have ge_b2 : n0 ≤ b2 := Nat.le_trans Z1 (Nat.le_of_eq g2.symm)
  have sz_b2 : h0.size ≤ b2 := Nat.le_trans K1.1 (Nat.le_of_eq g2.symm)
  have F2_65 := A1.ext E2
  have F2_66 := F1_coder.ext E2
  have F2_67 := F1_value.ext E2
  have K2 : Keep h0 h2 [] := K1.ext E2
  have Z2 : n0 ≤ h2.size := Nat.le_trans Z1 E2.1
  have O2 := O1.ext E2
  have hk := Nat.le_trans hk E2.1
  have V2 : Arv Z h2 b2 ka2 .char (0 : Int32) [] (.int (0 : Int32)) := (Arv.new A2 (by decide)).pad (pad_rep [] (.int (0 : Int32)) 0)
  refine Goes.via st2 ?_
  show Goes p e below (T2.setTop (mkF m 39 #[.val (.int (0 : Int32)), .val (.int p2), .val (.int ((p2 &&& (255 : Int32)).toUInt32.toUInt16.toUInt32.toInt32)), .val (.int ((((p2.toUInt32 >>> ((8 : Int32) &&& 31).toUInt32).toInt32) &&& (255 : Int32)).toUInt32.toUInt16.toUInt32.toInt32)), .val (.int ((((p2.toUInt32 >>> ((16 : Int32) &&& 31).toUInt32).toInt32) &&& (255 : Int32)).toUInt32.toUInt16.toUInt32.toInt32))] [(.ref b2), (.ref b1), (.ref b1)])) _
  obtain ⟨_, _, ⟨T3, L3, k3, n3⟩, -, X3, S3, sg3, ⟨Lc3, hQ3, l3, y3, z3⟩, st3⟩ := X2.specialBackS hx (y := (⟨"java/lang/String", "<init>", "([C)V"⟩ : MethodName)) rfl hown (mvT hZ (hw _ (List.mem_of_getElem? (i := 4) rfl))) (mvT hZ (hw _ (List.mem_of_getElem? (i := 5) rfl))) (mvT hZ (hw _ (List.mem_of_getElem? (i := 6) rfl))) (by decide) (ownBackS (W := 1) (I := fun vm => IB Z vm []) (rm1_e l Z a0 hw [] b1 b2 ka2 w0 h2 n0 Z2 F2_65 F2_67 F2_66 V2 ge_b1 (Nat.ne_of_lt lt_b1_b2) O2 St hcH hcw) hZ (fun vm q => hI.warm q) (hw _ (List.mem_of_getElem? (i := 6) rfl)) (hw _ (List.mem_of_getElem? (i := 3) rfl)) (by decide) (by decide)) (g := (mkF m 39 #[.val (.int (0 : Int32)), .val (.int p2), .val (.int ((p2 &&& (255 : Int32)).toUInt32.toUInt16.toUInt32.toInt32)), .val (.int ((((p2.toUInt32 >>> ((8 : Int32) &&& 31).toUInt32).toInt32) &&& (255 : Int32)).toUInt32.toUInt16.toUInt32.toInt32)), .val (.int ((((p2.toUInt32 >>> ((16 : Int32) &&& 31).toUInt32).toInt32) &&& (255 : Int32)).toUInt32.toUInt16.toUInt32.toInt32))] [(.ref b2), (.ref b1), (.ref b1)])) rfl (by rw [hml]; rfl) (Steps.refl _) (a := b1) (argsL := [(.ref b2)]) (rest := [(.ref b1)]) (lenOf pd_7_0_0 rfl) rfl (by show 2 * 0 + _ ≤ _; exact Nat.le_of_eq rfl) (hb hby d7_0_39) (fun _ _ => ⟨rfl, e2, (by decide : 2 + 2 ≤ _), (by decide : 4 + 4 ≤ _)⟩)
  dsimp only [Pt.U, Pt.locs, Pt.cells, Pt.slots] at X3 l3 y3 z3 st3 hQ3 S3 sg3
  subst l3 y3 z3
  obtain ⟨X3f, hS3, hZ3, hown3⟩ := rebS hS hk X3 S3 (by rw [← e2]; exact sg3) hZ hown
  have X3 := X3f
  have hS := hS3
  have hZ := hZ3
  have hown := hown3
  have hk : T3.heap.size ≤ T3.heap.size := Nat.le_refl _
  obtain ⟨rfl, N3q, Kc3, Ec3, Cc3, t3, kt3, nt3, Vq3, Vc3⟩ := hQ3
  have F3_85 := F2_65.keep Kc3
  have F3_86 := V2.keep Kc3 (fun q => (Nat.ne_of_gt lt_b1_b2) (List.mem_singleton.mp q))
  have K3 : Keep h0 T3.heap [] := K2.trans Kc3 (fun x hx => by cases List.mem_singleton.mp hx; exact Or.inr sz_b1)
  have Z3 : n0 ≤ T3.heap.size := Nat.le_trans Z2 Kc3.1
  have O3 := O2.keep Kc3 (fun x hx => by cases List.mem_singleton.mp hx; exact ge_b1)
  have N3 := Fr.app N0 N3q
  refine Goes.via (fun t k => st3.trans k) ?_
  show Goes p e below (T3.setTop (mkF m 42 #[.val (.int (0 : Int32)), .val (.int p2), .val (.int ((p2 &&& (255 : Int32)).toUInt32.toUInt16.toUInt32.toInt32)), .val (.int ((((p2.toUInt32 >>> ((8 : Int32) &&& 31).toUInt32).toInt32) &&& (255 : Int32)).toUInt32.toUInt16.toUInt32.toInt32)), .val (.int ((((p2.toUInt32 >>> ((16 : Int32) &&& 31).toUInt32).toInt32) &&& (255 : Int32)).toUInt32.toUInt16.toUInt32.toInt32))] [(.ref b1)])) _
  obtain ⟨fs, hr, hrun, hended, hRE⟩ := X3.leaveW hS hk (v := some (.ref b1)) (fun h => by rw [Bd.returns] at h; cases h)
  refine ⟨_, _, ?_, hrun, hended, _, _, rfl, ?_, hRE.1, hRE.2.1, hRE.2.2.1, hRE.2.2.2.mono (by decide) (by decide)⟩
  · exact retOut X3 hx (t := (.object "java/lang/String")) Bd.returns rfl (Or.inr (Or.inr (Or.inr (Or.inr ⟨rfl, rfl, rfl⟩)))) (hb hby d7_0_42) hr
  · exact ⟨b1, t3, _, _, rfl, N3, K3, F3_85, Cc3, Vq3, Vc3⟩
theorem d7_1_0 : decode method_3_code 0 = .ok (.iload_n 1, 1) := by decide +kernel
theorem d7_1_1 : decode method_3_code 1 = .ok (.sipush 255, 3) := by decide +kernel
theorem d7_1_4 : decode method_3_code 4 = .ok (.iand, 1) := by decide +kernel
theorem d7_1_5 : decode method_3_code 5 = .ok (.i2c, 1) := by decide +kernel
theorem d7_1_6 : decode method_3_code 6 = .ok (.istore_n 2, 1) := by decide +kernel
theorem d7_1_7 : decode method_3_code 7 = .ok (.iload_n 1, 1) := by decide +kernel
theorem d7_1_8 : decode method_3_code 8 = .ok (.bipush 8, 2) := by decide +kernel
theorem d7_1_10 : decode method_3_code 10 = .ok (.iushr, 1) := by decide +kernel
theorem d7_1_11 : decode method_3_code 11 = .ok (.sipush 255, 3) := by decide +kernel
theorem d7_1_14 : decode method_3_code 14 = .ok (.iand, 1) := by decide +kernel
theorem d7_1_15 : decode method_3_code 15 = .ok (.i2c, 1) := by decide +kernel
theorem d7_1_16 : decode method_3_code 16 = .ok (.istore_n 3, 1) := by decide +kernel
theorem d7_1_17 : decode method_3_code 17 = .ok (.iload_n 1, 1) := by decide +kernel
theorem d7_1_18 : decode method_3_code 18 = .ok (.bipush 16, 2) := by decide +kernel
theorem d7_1_20 : decode method_3_code 20 = .ok (.iushr, 1) := by decide +kernel
theorem d7_1_21 : decode method_3_code 21 = .ok (.sipush 255, 3) := by decide +kernel
theorem d7_1_24 : decode method_3_code 24 = .ok (.iand, 1) := by decide +kernel
theorem d7_1_25 : decode method_3_code 25 = .ok (.i2c, 1) := by decide +kernel
theorem d7_1_26 : decode method_3_code 26 = .ok (.istore 4, 2) := by decide +kernel
theorem d7_1_28 : decode method_3_code 28 = .ok (.iload_n 0, 1) := by decide +kernel
theorem d7_1_29 : decode method_3_code 29 = .ok (.ifCond .ne 14, 3) := by decide +kernel
theorem d7_1_43 : decode method_3_code 43 = .ok (.iload_n 0, 1) := by decide +kernel
theorem d7_1_44 : decode method_3_code 44 = .ok (.iconst 1, 1) := by decide +kernel
theorem d7_1_45 : decode method_3_code 45 = .ok (.if_icmp .ne 18, 3) := by decide +kernel
theorem d7_1_48 : decode method_3_code 48 = .ok (.new 7, 3) := by decide +kernel
theorem d7_1_51 : decode method_3_code 51 = .ok (.dup, 1) := by decide +kernel
theorem d7_1_52 : decode method_3_code 52 = .ok (.iconst 1, 1) := by decide +kernel
theorem d7_1_53 : decode method_3_code 53 = .ok (.newarray .char, 2) := by decide +kernel
theorem d7_1_55 : decode method_3_code 55 = .ok (.dup, 1) := by decide +kernel
theorem d7_1_56 : decode method_3_code 56 = .ok (.iconst 0, 1) := by decide +kernel
theorem d7_1_57 : decode method_3_code 57 = .ok (.iload_n 2, 1) := by decide +kernel
theorem d7_1_58 : decode method_3_code 58 = .ok (.castore, 1) := by decide +kernel
theorem d7_1_59 : decode method_3_code 59 = .ok (.invokespecial 9, 3) := by decide +kernel
theorem d7_1_62 : decode method_3_code 62 = .ok (.areturn, 1) := by decide +kernel
theorem pn_7_1 : plainName "com/example/beforehand/beforehand/TextPartLengthPinLaw" = true := by first | (simp [plainName, overriddenIn]; done) | decide +kernel
theorem pd_7_1_0 : parseMethodDescriptor "([C)V" = some ⟨[(.array .char)], none⟩ := by decide +kernel
theorem ef_7_1 (m : MethodId) (x1 : Int32) : entryFrame m #[(.int (1 : Int32)), (.int x1)] 5 = mkF m 0 #[.val (.int (1 : Int32)), .val (.int x1), .unset, .unset, .unset] [] := by first | (simp [entryFrame, mkF, argsToLocals, Value.category]; done) | rfl
def Q7_1 (Z : State) (h0 : Heap) (n0 : Nat) (v : Option Value) (h : Heap) (L : List Loc) : Prop := ∃ (r t : Addr) (k : ClassId) (vs : List Value), v = some (.ref r) ∧ Fr n0 L ∧ Keep h0 h [] ∧ Exa Z h r "java/lang/String" ∧ Fld Z h r "java/lang/String" "coder" "B" (.int (0 : Int32)) ∧ Fld Z h r "java/lang/String" "value" "[B" (.ref t) ∧ Arv Z h t k .byte (1 : Int32) vs (.int (0 : Int32))
set_option maxRecDepth 65536 in
set_option maxHeartbeats 40000000 in
theorem rm7_1 (l : Launch) (Z : State) (a0 : Array Value) (hw : ∀ d ∈ tables_1, d.before a0 Z = true) (ws : List Jvm.Cond) (p2 : Int32) (w0 : Int32) (h0 : Heap) (n0 : Nat) (Z0 : n0 ≤ h0.size) (O0 : Old Z n0 h0) (St : own_St Z w0) :
    MetFree l (⟨"com/example/beforehand/beforehand/TextPartLengthPinLaw", "makeAfter", "(II)Ljava/lang/String;"⟩ : MethodName) (head1 (Jvm.Cond.code (⟨"com/example/beforehand/beforehand/TextPartLengthPinLaw", "makeAfter", "(II)Ljava/lang/String;"⟩ : MethodName) method_3_code 5 (some (.object "java/lang/String")) :: ws) ({ frames := 4, cells := 3, slots := 6, locals := 66 } : Room)) (fun a U => a = #[(.int (1 : Int32)), (.int p2)] ∧ Z.Warmed39 U.vm ∧ U.heap = h0) (fun _ _ _ _ _ => True) (fun _ U o U' => ∃ v L, o = .returned v ∧ Q7_1 Z  h0 n0 v U'.heap L ∧ FrameEnd U o U' L ({ frames := 4, cells := 3, slots := 6, locals := 66 } : Room).cells ({ frames := 4, cells := 3, slots := 6, locals := 66 } : Room).slots) := by
  refine MetFree.of_bodySF (plainFor_of_name pn_7_1) hisR ?_
  intro p e s m args below meth c s₁ Bd hml0 hP hK
  obtain ⟨rfl, hZ, hh⟩ := hP
  have hx := Bd.exec
  have hby := Bd.bytes
  have hml : c.maxLocals = 5 := hml0
  have hown : s.vm.findClass "com/example/beforehand/beforehand/TextPartLengthPinLaw" = some m.cls := findClass_of_methodNamed Bd.named
  have hnm := (name_of_methodNamed Bd.named Bd.method).1
  have X0 : Stand p l e ({ frames := 4, cells := 3, slots := 6, locals := 66 } : Room) s m #[(.int (1 : Int32)), (.int p2)] below meth c s₁ [] 0 0 := Stand.of_body Bd
  have e0 : s₁.heap = h0 := by rw [← hh, Bd.state]; rfl
  have N0 := Fr.nil n0
  refine Goes.via (next := s₁.setTop (mkF m 0 #[.val (.int (1 : Int32)), .val (.int p2), .unset, .unset, .unset] [])) (fun t k => castTop (ef_7_1 m p2) k) ?_
  refine Goes.via (fun t k => XS.iloadN X0.here hx rfl (hb hby d7_1_0) rfl k) ?_
  show Goes p e below (s₁.setTop (mkF m 1 #[.val (.int (1 : Int32)), .val (.int p2), .unset, .unset, .unset] [(.int p2)])) _
  refine Goes.via (fun t k => XS.sipush X0.here hx rfl (hb hby d7_1_1) k) ?_
  show Goes p e below (s₁.setTop (mkF m 4 #[.val (.int (1 : Int32)), .val (.int p2), .unset, .unset, .unset] [(.int (255 : Int32)), (.int p2)])) _
  refine Goes.via (fun t k => XS.iand X0.here hx rfl (hb hby d7_1_4) rfl k) ?_
  show Goes p e below (s₁.setTop (mkF m 5 #[.val (.int (1 : Int32)), .val (.int p2), .unset, .unset, .unset] [(.int (p2 &&& (255 : Int32)))])) _
  refine Goes.via (fun t k => XS.i2c X0.here hx rfl (hb hby d7_1_5) rfl k) ?_
  show Goes p e below (s₁.setTop (mkF m 6 #[.val (.int (1 : Int32)), .val (.int p2), .unset, .unset, .unset] [(.int ((p2 &&& (255 : Int32)).toUInt32.toUInt16.toUInt32.toInt32))])) _
  refine Goes.via (fun t k => XS.istoreN X0.here hx rfl (hb hby d7_1_6) rfl (l' := #[.val (.int (1 : Int32)), .val (.int p2), .val (.int ((p2 &&& (255 : Int32)).toUInt32.toUInt16.toUInt32.toInt32)), .unset, .unset]) rfl k) ?_
  show Goes p e below (s₁.setTop (mkF m 7 #[.val (.int (1 : Int32)), .val (.int p2), .val (.int ((p2 &&& (255 : Int32)).toUInt32.toUInt16.toUInt32.toInt32)), .unset, .unset] [])) _
  refine Goes.via (fun t k => XS.iloadN X0.here hx rfl (hb hby d7_1_7) rfl k) ?_
  show Goes p e below (s₁.setTop (mkF m 8 #[.val (.int (1 : Int32)), .val (.int p2), .val (.int ((p2 &&& (255 : Int32)).toUInt32.toUInt16.toUInt32.toInt32)), .unset, .unset] [(.int p2)])) _
  refine Goes.via (fun t k => XS.bipush X0.here hx rfl (hb hby d7_1_8) k) ?_
  show Goes p e below (s₁.setTop (mkF m 10 #[.val (.int (1 : Int32)), .val (.int p2), .val (.int ((p2 &&& (255 : Int32)).toUInt32.toUInt16.toUInt32.toInt32)), .unset, .unset] [(.int (8 : Int32)), (.int p2)])) _
  refine Goes.via (fun t k => XS.iushr X0.here hx rfl (hb hby d7_1_10) rfl k) ?_
  show Goes p e below (s₁.setTop (mkF m 11 #[.val (.int (1 : Int32)), .val (.int p2), .val (.int ((p2 &&& (255 : Int32)).toUInt32.toUInt16.toUInt32.toInt32)), .unset, .unset] [(.int ((p2.toUInt32 >>> ((8 : Int32) &&& 31).toUInt32).toInt32))])) _
  refine Goes.via (fun t k => XS.sipush X0.here hx rfl (hb hby d7_1_11) k) ?_
  show Goes p e below (s₁.setTop (mkF m 14 #[.val (.int (1 : Int32)), .val (.int p2), .val (.int ((p2 &&& (255 : Int32)).toUInt32.toUInt16.toUInt32.toInt32)), .unset, .unset] [(.int (255 : Int32)), (.int ((p2.toUInt32 >>> ((8 : Int32) &&& 31).toUInt32).toInt32))])) _
  refine Goes.via (fun t k => XS.iand X0.here hx rfl (hb hby d7_1_14) rfl k) ?_
  show Goes p e below (s₁.setTop (mkF m 15 #[.val (.int (1 : Int32)), .val (.int p2), .val (.int ((p2 &&& (255 : Int32)).toUInt32.toUInt16.toUInt32.toInt32)), .unset, .unset] [(.int (((p2.toUInt32 >>> ((8 : Int32) &&& 31).toUInt32).toInt32) &&& (255 : Int32)))])) _
  refine Goes.via (fun t k => XS.i2c X0.here hx rfl (hb hby d7_1_15) rfl k) ?_
  show Goes p e below (s₁.setTop (mkF m 16 #[.val (.int (1 : Int32)), .val (.int p2), .val (.int ((p2 &&& (255 : Int32)).toUInt32.toUInt16.toUInt32.toInt32)), .unset, .unset] [(.int ((((p2.toUInt32 >>> ((8 : Int32) &&& 31).toUInt32).toInt32) &&& (255 : Int32)).toUInt32.toUInt16.toUInt32.toInt32))])) _
  refine Goes.via (fun t k => XS.istoreN X0.here hx rfl (hb hby d7_1_16) rfl (l' := #[.val (.int (1 : Int32)), .val (.int p2), .val (.int ((p2 &&& (255 : Int32)).toUInt32.toUInt16.toUInt32.toInt32)), .val (.int ((((p2.toUInt32 >>> ((8 : Int32) &&& 31).toUInt32).toInt32) &&& (255 : Int32)).toUInt32.toUInt16.toUInt32.toInt32)), .unset]) rfl k) ?_
  show Goes p e below (s₁.setTop (mkF m 17 #[.val (.int (1 : Int32)), .val (.int p2), .val (.int ((p2 &&& (255 : Int32)).toUInt32.toUInt16.toUInt32.toInt32)), .val (.int ((((p2.toUInt32 >>> ((8 : Int32) &&& 31).toUInt32).toInt32) &&& (255 : Int32)).toUInt32.toUInt16.toUInt32.toInt32)), .unset] [])) _
  refine Goes.via (fun t k => XS.iloadN X0.here hx rfl (hb hby d7_1_17) rfl k) ?_
  show Goes p e below (s₁.setTop (mkF m 18 #[.val (.int (1 : Int32)), .val (.int p2), .val (.int ((p2 &&& (255 : Int32)).toUInt32.toUInt16.toUInt32.toInt32)), .val (.int ((((p2.toUInt32 >>> ((8 : Int32) &&& 31).toUInt32).toInt32) &&& (255 : Int32)).toUInt32.toUInt16.toUInt32.toInt32)), .unset] [(.int p2)])) _
  refine Goes.via (fun t k => XS.bipush X0.here hx rfl (hb hby d7_1_18) k) ?_
  show Goes p e below (s₁.setTop (mkF m 20 #[.val (.int (1 : Int32)), .val (.int p2), .val (.int ((p2 &&& (255 : Int32)).toUInt32.toUInt16.toUInt32.toInt32)), .val (.int ((((p2.toUInt32 >>> ((8 : Int32) &&& 31).toUInt32).toInt32) &&& (255 : Int32)).toUInt32.toUInt16.toUInt32.toInt32)), .unset] [(.int (16 : Int32)), (.int p2)])) _
  refine Goes.via (fun t k => XS.iushr X0.here hx rfl (hb hby d7_1_20) rfl k) ?_
  show Goes p e below (s₁.setTop (mkF m 21 #[.val (.int (1 : Int32)), .val (.int p2), .val (.int ((p2 &&& (255 : Int32)).toUInt32.toUInt16.toUInt32.toInt32)), .val (.int ((((p2.toUInt32 >>> ((8 : Int32) &&& 31).toUInt32).toInt32) &&& (255 : Int32)).toUInt32.toUInt16.toUInt32.toInt32)), .unset] [(.int ((p2.toUInt32 >>> ((16 : Int32) &&& 31).toUInt32).toInt32))])) _
  refine Goes.via (fun t k => XS.sipush X0.here hx rfl (hb hby d7_1_21) k) ?_
  show Goes p e below (s₁.setTop (mkF m 24 #[.val (.int (1 : Int32)), .val (.int p2), .val (.int ((p2 &&& (255 : Int32)).toUInt32.toUInt16.toUInt32.toInt32)), .val (.int ((((p2.toUInt32 >>> ((8 : Int32) &&& 31).toUInt32).toInt32) &&& (255 : Int32)).toUInt32.toUInt16.toUInt32.toInt32)), .unset] [(.int (255 : Int32)), (.int ((p2.toUInt32 >>> ((16 : Int32) &&& 31).toUInt32).toInt32))])) _
  refine Goes.via (fun t k => XS.iand X0.here hx rfl (hb hby d7_1_24) rfl k) ?_
  show Goes p e below (s₁.setTop (mkF m 25 #[.val (.int (1 : Int32)), .val (.int p2), .val (.int ((p2 &&& (255 : Int32)).toUInt32.toUInt16.toUInt32.toInt32)), .val (.int ((((p2.toUInt32 >>> ((8 : Int32) &&& 31).toUInt32).toInt32) &&& (255 : Int32)).toUInt32.toUInt16.toUInt32.toInt32)), .unset] [(.int (((p2.toUInt32 >>> ((16 : Int32) &&& 31).toUInt32).toInt32) &&& (255 : Int32)))])) _
  refine Goes.via (fun t k => XS.i2c X0.here hx rfl (hb hby d7_1_25) rfl k) ?_
  show Goes p e below (s₁.setTop (mkF m 26 #[.val (.int (1 : Int32)), .val (.int p2), .val (.int ((p2 &&& (255 : Int32)).toUInt32.toUInt16.toUInt32.toInt32)), .val (.int ((((p2.toUInt32 >>> ((8 : Int32) &&& 31).toUInt32).toInt32) &&& (255 : Int32)).toUInt32.toUInt16.toUInt32.toInt32)), .unset] [(.int ((((p2.toUInt32 >>> ((16 : Int32) &&& 31).toUInt32).toInt32) &&& (255 : Int32)).toUInt32.toUInt16.toUInt32.toInt32))])) _
  refine Goes.via (fun t k => XS.istore X0.here hx rfl (hb hby d7_1_26) rfl (l' := #[.val (.int (1 : Int32)), .val (.int p2), .val (.int ((p2 &&& (255 : Int32)).toUInt32.toUInt16.toUInt32.toInt32)), .val (.int ((((p2.toUInt32 >>> ((8 : Int32) &&& 31).toUInt32).toInt32) &&& (255 : Int32)).toUInt32.toUInt16.toUInt32.toInt32)), .val (.int ((((p2.toUInt32 >>> ((16 : Int32) &&& 31).toUInt32).toInt32) &&& (255 : Int32)).toUInt32.toUInt16.toUInt32.toInt32))]) rfl k) ?_
  show Goes p e below (s₁.setTop (mkF m 28 #[.val (.int (1 : Int32)), .val (.int p2), .val (.int ((p2 &&& (255 : Int32)).toUInt32.toUInt16.toUInt32.toInt32)), .val (.int ((((p2.toUInt32 >>> ((8 : Int32) &&& 31).toUInt32).toInt32) &&& (255 : Int32)).toUInt32.toUInt16.toUInt32.toInt32)), .val (.int ((((p2.toUInt32 >>> ((16 : Int32) &&& 31).toUInt32).toInt32) &&& (255 : Int32)).toUInt32.toUInt16.toUInt32.toInt32))] [])) _
  refine Goes.via (fun t k => XS.iloadN X0.here hx rfl (hb hby d7_1_28) rfl k) ?_
  show Goes p e below (s₁.setTop (mkF m 29 #[.val (.int (1 : Int32)), .val (.int p2), .val (.int ((p2 &&& (255 : Int32)).toUInt32.toUInt16.toUInt32.toInt32)), .val (.int ((((p2.toUInt32 >>> ((8 : Int32) &&& 31).toUInt32).toInt32) &&& (255 : Int32)).toUInt32.toUInt16.toUInt32.toInt32)), .val (.int ((((p2.toUInt32 >>> ((16 : Int32) &&& 31).toUInt32).toInt32) &&& (255 : Int32)).toUInt32.toUInt16.toUInt32.toInt32))] [(.int (1 : Int32))])) _
  refine Goes.via (fun t k => XS.ifYes X0.here hx rfl (pc0 := 29) (pc' := 43) rfl (hb hby d7_1_29) rfl ((if0 _ _).trans (feq (show ¬ ((1 : Int32) = (0 : Int32)) from (by decide))).2) (by decide) (by decide) k) ?_
  show Goes p e below (s₁.setTop (mkF m 43 #[.val (.int (1 : Int32)), .val (.int p2), .val (.int ((p2 &&& (255 : Int32)).toUInt32.toUInt16.toUInt32.toInt32)), .val (.int ((((p2.toUInt32 >>> ((8 : Int32) &&& 31).toUInt32).toInt32) &&& (255 : Int32)).toUInt32.toUInt16.toUInt32.toInt32)), .val (.int ((((p2.toUInt32 >>> ((16 : Int32) &&& 31).toUInt32).toInt32) &&& (255 : Int32)).toUInt32.toUInt16.toUInt32.toInt32))] [])) _
  refine Goes.via (fun t k => XS.iloadN X0.here hx rfl (hb hby d7_1_43) rfl k) ?_
  show Goes p e below (s₁.setTop (mkF m 44 #[.val (.int (1 : Int32)), .val (.int p2), .val (.int ((p2 &&& (255 : Int32)).toUInt32.toUInt16.toUInt32.toInt32)), .val (.int ((((p2.toUInt32 >>> ((8 : Int32) &&& 31).toUInt32).toInt32) &&& (255 : Int32)).toUInt32.toUInt16.toUInt32.toInt32)), .val (.int ((((p2.toUInt32 >>> ((16 : Int32) &&& 31).toUInt32).toInt32) &&& (255 : Int32)).toUInt32.toUInt16.toUInt32.toInt32))] [(.int (1 : Int32))])) _
  refine Goes.via (fun t k => XS.iconst X0.here hx rfl (hb hby d7_1_44) k) ?_
  show Goes p e below (s₁.setTop (mkF m 45 #[.val (.int (1 : Int32)), .val (.int p2), .val (.int ((p2 &&& (255 : Int32)).toUInt32.toUInt16.toUInt32.toInt32)), .val (.int ((((p2.toUInt32 >>> ((8 : Int32) &&& 31).toUInt32).toInt32) &&& (255 : Int32)).toUInt32.toUInt16.toUInt32.toInt32)), .val (.int ((((p2.toUInt32 >>> ((16 : Int32) &&& 31).toUInt32).toInt32) &&& (255 : Int32)).toUInt32.toUInt16.toUInt32.toInt32))] [(.int (1 : Int32)), (.int (1 : Int32))])) _
  refine Goes.via (fun t k => XS.icmpNo X0.here hx rfl (hb hby d7_1_45) rfl (teq (show (1 : Int32) = (1 : Int32) from rfl)).2 k) ?_
  show Goes p e below (s₁.setTop (mkF m 48 #[.val (.int (1 : Int32)), .val (.int p2), .val (.int ((p2 &&& (255 : Int32)).toUInt32.toUInt16.toUInt32.toInt32)), .val (.int ((((p2.toUInt32 >>> ((8 : Int32) &&& 31).toUInt32).toInt32) &&& (255 : Int32)).toUInt32.toUInt16.toUInt32.toInt32)), .val (.int ((((p2.toUInt32 >>> ((16 : Int32) &&& 31).toUInt32).toInt32) &&& (255 : Int32)).toUInt32.toUInt16.toUInt32.toInt32))] [])) _
  obtain ⟨T1, h1, X1, e1, E1, A1, D1, -, st1⟩ := newO X0 hx hZ hown (hw _ (List.mem_of_getElem? (i := 1) rfl)) (hw _ (List.mem_of_getElem? (i := 2) rfl)) (hw _ (List.mem_of_getElem? (i := 3) rfl)) e0 (g := (mkF m 48 #[.val (.int (1 : Int32)), .val (.int p2), .val (.int ((p2 &&& (255 : Int32)).toUInt32.toUInt16.toUInt32.toInt32)), .val (.int ((((p2.toUInt32 >>> ((8 : Int32) &&& 31).toUInt32).toInt32) &&& (255 : Int32)).toUInt32.toUInt16.toUInt32.toInt32)), .val (.int ((((p2.toUInt32 >>> ((16 : Int32) &&& 31).toUInt32).toInt32) &&& (255 : Int32)).toUInt32.toUInt16.toUInt32.toInt32))] [])) rfl (hb hby d7_1_48) (by decide) (by decide)
  obtain ⟨b1, g1⟩ : ∃ z, z = h0.size := ⟨_, rfl⟩
  rw [← g1] at A1 D1 st1
  have ge_b1 : n0 ≤ b1 := Nat.le_trans Z0 (Nat.le_of_eq g1.symm)
  have sz_b1 : h0.size ≤ b1 := Nat.le_trans (Keep.refl h0 []).1 (Nat.le_of_eq g1.symm)
  have K1 : Keep h0 h1 [] := (Keep.refl h0 []).ext E1
  have Z1 : n0 ≤ h1.size := Nat.le_trans Z0 E1.1
  have O1 := O0.ext E1
  have F1_coder : Fld Z h1 b1 "java/lang/String" "coder" "B" (.int (0 : Int32)) := D1 (Or.inr (hw _ (List.mem_of_getElem? (i := 27) rfl))) (ty := .byte) (by decide)
  have F1_value : Fld Z h1 b1 "java/lang/String" "value" "[B" .null := D1 (Or.inr (hw _ (List.mem_of_getElem? (i := 29) rfl))) (ty := (.array .byte)) (by decide)
  refine Goes.via st1 ?_
  show Goes p e below (T1.setTop (mkF m 51 #[.val (.int (1 : Int32)), .val (.int p2), .val (.int ((p2 &&& (255 : Int32)).toUInt32.toUInt16.toUInt32.toInt32)), .val (.int ((((p2.toUInt32 >>> ((8 : Int32) &&& 31).toUInt32).toInt32) &&& (255 : Int32)).toUInt32.toUInt16.toUInt32.toInt32)), .val (.int ((((p2.toUInt32 >>> ((16 : Int32) &&& 31).toUInt32).toInt32) &&& (255 : Int32)).toUInt32.toUInt16.toUInt32.toInt32))] [(.ref b1)])) _
  refine Goes.via (fun t k => XS.dup X1.here hx rfl (hb hby d7_1_51) rfl rfl k) ?_
  show Goes p e below (T1.setTop (mkF m 52 #[.val (.int (1 : Int32)), .val (.int p2), .val (.int ((p2 &&& (255 : Int32)).toUInt32.toUInt16.toUInt32.toInt32)), .val (.int ((((p2.toUInt32 >>> ((8 : Int32) &&& 31).toUInt32).toInt32) &&& (255 : Int32)).toUInt32.toUInt16.toUInt32.toInt32)), .val (.int ((((p2.toUInt32 >>> ((16 : Int32) &&& 31).toUInt32).toInt32) &&& (255 : Int32)).toUInt32.toUInt16.toUInt32.toInt32))] [(.ref b1), (.ref b1)])) _
  refine Goes.via (fun t k => XS.iconst X1.here hx rfl (hb hby d7_1_52) k) ?_
  show Goes p e below (T1.setTop (mkF m 53 #[.val (.int (1 : Int32)), .val (.int p2), .val (.int ((p2 &&& (255 : Int32)).toUInt32.toUInt16.toUInt32.toInt32)), .val (.int ((((p2.toUInt32 >>> ((8 : Int32) &&& 31).toUInt32).toInt32) &&& (255 : Int32)).toUInt32.toUInt16.toUInt32.toInt32)), .val (.int ((((p2.toUInt32 >>> ((16 : Int32) &&& 31).toUInt32).toInt32) &&& (255 : Int32)).toUInt32.toUInt16.toUInt32.toInt32))] [(.int (1 : Int32)), (.ref b1), (.ref b1)])) _
  obtain ⟨T2, h2, ka2, X2, e2, E2, A2, st2⟩ := newP X1 hx hZ (hw _ (List.mem_of_getElem? (i := 0) rfl)) e1 (g := (mkF m 53 #[.val (.int (1 : Int32)), .val (.int p2), .val (.int ((p2 &&& (255 : Int32)).toUInt32.toUInt16.toUInt32.toInt32)), .val (.int ((((p2.toUInt32 >>> ((8 : Int32) &&& 31).toUInt32).toInt32) &&& (255 : Int32)).toUInt32.toUInt16.toUInt32.toInt32)), .val (.int ((((p2.toUInt32 >>> ((16 : Int32) &&& 31).toUInt32).toInt32) &&& (255 : Int32)).toUInt32.toUInt16.toUInt32.toInt32))] [(.int (1 : Int32)), (.ref b1), (.ref b1)])) rfl (hb hby d7_1_53) rfl (by decide) (cap := 1) (by decide) (by decide) (by decide) (by decide)
  obtain ⟨b2, g2⟩ : ∃ z, z = h1.size := ⟨_, rfl⟩
  rw [← g2] at A2 st2
  have lt_b1_b2 : b1 < b2 := Nat.lt_of_lt_of_le A1.lt (Nat.le_of_eq g2.symm)
  have ge_b2 : n0 ≤ b2 := Nat.le_trans Z1 (Nat.le_of_eq g2.symm)
  have sz_b2 : h0.size ≤ b2 := Nat.le_trans K1.1 (Nat.le_of_eq g2.symm)
  have F2_70 := A1.ext E2
  have F2_71 := F1_coder.ext E2
  have F2_72 := F1_value.ext E2
  have K2 : Keep h0 h2 [] := K1.ext E2
  have Z2 : n0 ≤ h2.size := Nat.le_trans Z1 E2.1
  have O2 := O1.ext E2
  have V2 : Arv Z h2 b2 ka2 .char (1 : Int32) [(.int (0 : Int32))] (.int (0 : Int32)) := (Arv.new A2 (by decide)).pad (pad_rep [] (.int (0 : Int32)) 1)
  refine Goes.via st2 ?_
  show Goes p e below (T2.setTop (mkF m 55 #[.val (.int (1 : Int32)), .val (.int p2), .val (.int ((p2 &&& (255 : Int32)).toUInt32.toUInt16.toUInt32.toInt32)), .val (.int ((((p2.toUInt32 >>> ((8 : Int32) &&& 31).toUInt32).toInt32) &&& (255 : Int32)).toUInt32.toUInt16.toUInt32.toInt32)), .val (.int ((((p2.toUInt32 >>> ((16 : Int32) &&& 31).toUInt32).toInt32) &&& (255 : Int32)).toUInt32.toUInt16.toUInt32.toInt32))] [(.ref b2), (.ref b1), (.ref b1)])) _
  refine Goes.via (fun t k => XS.dup X2.here hx rfl (hb hby d7_1_55) rfl rfl k) ?_
  show Goes p e below (T2.setTop (mkF m 56 #[.val (.int (1 : Int32)), .val (.int p2), .val (.int ((p2 &&& (255 : Int32)).toUInt32.toUInt16.toUInt32.toInt32)), .val (.int ((((p2.toUInt32 >>> ((8 : Int32) &&& 31).toUInt32).toInt32) &&& (255 : Int32)).toUInt32.toUInt16.toUInt32.toInt32)), .val (.int ((((p2.toUInt32 >>> ((16 : Int32) &&& 31).toUInt32).toInt32) &&& (255 : Int32)).toUInt32.toUInt16.toUInt32.toInt32))] [(.ref b2), (.ref b2), (.ref b1), (.ref b1)])) _
  refine Goes.via (fun t k => XS.iconst X2.here hx rfl (hb hby d7_1_56) k) ?_
  show Goes p e below (T2.setTop (mkF m 57 #[.val (.int (1 : Int32)), .val (.int p2), .val (.int ((p2 &&& (255 : Int32)).toUInt32.toUInt16.toUInt32.toInt32)), .val (.int ((((p2.toUInt32 >>> ((8 : Int32) &&& 31).toUInt32).toInt32) &&& (255 : Int32)).toUInt32.toUInt16.toUInt32.toInt32)), .val (.int ((((p2.toUInt32 >>> ((16 : Int32) &&& 31).toUInt32).toInt32) &&& (255 : Int32)).toUInt32.toUInt16.toUInt32.toInt32))] [(.int (0 : Int32)), (.ref b2), (.ref b2), (.ref b1), (.ref b1)])) _
  refine Goes.via (fun t k => XS.iloadN X2.here hx rfl (hb hby d7_1_57) rfl k) ?_
  show Goes p e below (T2.setTop (mkF m 58 #[.val (.int (1 : Int32)), .val (.int p2), .val (.int ((p2 &&& (255 : Int32)).toUInt32.toUInt16.toUInt32.toInt32)), .val (.int ((((p2.toUInt32 >>> ((8 : Int32) &&& 31).toUInt32).toInt32) &&& (255 : Int32)).toUInt32.toUInt16.toUInt32.toInt32)), .val (.int ((((p2.toUInt32 >>> ((16 : Int32) &&& 31).toUInt32).toInt32) &&& (255 : Int32)).toUInt32.toUInt16.toUInt32.toInt32))] [(.int ((p2 &&& (255 : Int32)).toUInt32.toUInt16.toUInt32.toInt32)), (.int (0 : Int32)), (.ref b2), (.ref b2), (.ref b1), (.ref b1)])) _
  obtain ⟨cl3, Ar3, qa3, Sa3, Na3, Ha3, Ga3⟩ := V2
  have hin3 : ¬ ((0 : Int32) < 0 ∨ cl3.slots.size ≤ ((0 : Int32)).toNatClampNeg) := inb_of Sa3 ⟨by decide, by decide⟩
  obtain ⟨T3, h3, X3, e3, W3, st3⟩ := stC X2 hx hZ e2 Ar3 (j := (0 : Int32)) hin3 (g := (mkF m 58 #[.val (.int (1 : Int32)), .val (.int p2), .val (.int ((p2 &&& (255 : Int32)).toUInt32.toUInt16.toUInt32.toInt32)), .val (.int ((((p2.toUInt32 >>> ((8 : Int32) &&& 31).toUInt32).toInt32) &&& (255 : Int32)).toUInt32.toUInt16.toUInt32.toInt32)), .val (.int ((((p2.toUInt32 >>> ((16 : Int32) &&& 31).toUInt32).toInt32) &&& (255 : Int32)).toUInt32.toUInt16.toUInt32.toInt32))] [(.int ((p2 &&& (255 : Int32)).toUInt32.toUInt16.toUInt32.toInt32)), (.int (0 : Int32)), (.ref b2), (.ref b2), (.ref b1), (.ref b1)])) rfl rfl (hb hby d7_1_58)
  have V3 : Arv Z h3 b2 ka2 .char (1 : Int32) [(.int (nar .char ((p2 &&& (255 : Int32)).toUInt32.toUInt16.toUInt32.toInt32)))] (.int (0 : Int32)) := Arv.set Ar3 qa3 Sa3 Na3 Ha3 Ga3 (fits_nar_char _) W3 0 rfl (Nat.le_of_ble_eq_true rfl)
  have F3_89 := F2_70.wr W3
  have F3_90 := F2_71.other W3 (Or.inl (Nat.ne_of_lt lt_b1_b2))
  have F3_91 := F2_72.other W3 (Or.inl (Nat.ne_of_lt lt_b1_b2))
  have K3 : Keep h0 h3 [] := K2.wr W3 (Or.inr sz_b2)
  have Z3 : n0 ≤ h3.size := Nat.le_trans Z2 (Keep.of_wr W3).1
  have N3 := Fr.snoc X3 N0 ge_b2
  have O3 := O2.wr W3 ge_b2
  refine Goes.via st3 ?_
  show Goes p e below (T3.setTop (mkF m 59 #[.val (.int (1 : Int32)), .val (.int p2), .val (.int ((p2 &&& (255 : Int32)).toUInt32.toUInt16.toUInt32.toInt32)), .val (.int ((((p2.toUInt32 >>> ((8 : Int32) &&& 31).toUInt32).toInt32) &&& (255 : Int32)).toUInt32.toUInt16.toUInt32.toInt32)), .val (.int ((((p2.toUInt32 >>> ((16 : Int32) &&& 31).toUInt32).toInt32) &&& (255 : Int32)).toUInt32.toUInt16.toUInt32.toInt32))] [(.ref b2), (.ref b1), (.ref b1)])) _
  obtain ⟨Lw4, X4w, N4w⟩ := ownPack X3 N3
  obtain ⟨_, _, ⟨T5, L5, k5, n5⟩, -, X5, ⟨Lc5, hQ5, l5, y5, z5⟩, st5⟩ := X4w.specialBack hx (y := (⟨"java/lang/String", "<init>", "([C)V"⟩ : MethodName)) rfl hown (mvT hZ (hw _ (List.mem_of_getElem? (i := 4) rfl))) (mvT hZ (hw _ (List.mem_of_getElem? (i := 5) rfl))) (mvT hZ (hw _ (List.mem_of_getElem? (i := 6) rfl))) (by decide) (backOf (W := 1) (rm1_1 l Z a0 hw [] b1 b2 ka2 (nar .char ((p2 &&& (255 : Int32)).toUInt32.toUInt16.toUInt32.toInt32)) w0 h3 n0 Z3 F3_89 F3_91 F3_90 V3 ge_b1 (Nat.ne_of_lt lt_b1_b2) O3 St (own_c255 _)) hZ (hw _ (List.mem_of_getElem? (i := 6) rfl)) (hw _ (List.mem_of_getElem? (i := 3) rfl)) (by decide) (by decide)) (g := (mkF m 59 #[.val (.int (1 : Int32)), .val (.int p2), .val (.int ((p2 &&& (255 : Int32)).toUInt32.toUInt16.toUInt32.toInt32)), .val (.int ((((p2.toUInt32 >>> ((8 : Int32) &&& 31).toUInt32).toInt32) &&& (255 : Int32)).toUInt32.toUInt16.toUInt32.toInt32)), .val (.int ((((p2.toUInt32 >>> ((16 : Int32) &&& 31).toUInt32).toInt32) &&& (255 : Int32)).toUInt32.toUInt16.toUInt32.toInt32))] [(.ref b2), (.ref b1), (.ref b1)])) rfl (by rw [hml]; rfl) (Steps.refl _) (a := b1) (argsL := [(.ref b2)]) (rest := [(.ref b1)]) (lenOf pd_7_1_0 rfl) rfl (by show 2 * 0 + _ ≤ _; exact Nat.le_of_eq rfl) (hb hby d7_1_59) (fun _ _ => ⟨rfl, e3, (by decide : 2 + 1 ≤ _), (by decide : 5 + 1 ≤ _)⟩)
  dsimp only [Pt.U, Pt.locs, Pt.cells, Pt.slots] at X5 l5 y5 z5 st5 hQ5
  subst l5 y5 z5
  obtain ⟨rfl, N5q, Kc5, Ec5, Cc5, t5, kt5, gt5, zt5, Vq5, Vc5⟩ := hQ5
  have lt_b1_t5 : b1 < t5 := Nat.lt_of_lt_of_le F3_89.lt zt5
  have lt_b2_t5 : b2 < t5 := Nat.lt_of_lt_of_le V3.lt zt5
  have sz_t5 : h0.size ≤ t5 := Nat.le_trans K3.1 zt5
  have F5_106 := F3_89.keep Kc5
  have F5_107 := V3.keep Kc5 (fun q => (Nat.ne_of_gt lt_b1_b2) (List.mem_singleton.mp q))
  have K5 : Keep h0 T5.heap [] := K3.trans Kc5 (fun x hx => by cases List.mem_singleton.mp hx; exact Or.inr sz_b1)
  have Z5 : n0 ≤ T5.heap.size := Nat.le_trans Z3 Kc5.1
  have O5 := O3.keep Kc5 (fun x hx => by cases List.mem_singleton.mp hx; exact ge_b1)
  have N5 := Fr.app N4w N5q
  refine Goes.via (fun t k => st5.trans k) ?_
  show Goes p e below (T5.setTop (mkF m 62 #[.val (.int (1 : Int32)), .val (.int p2), .val (.int ((p2 &&& (255 : Int32)).toUInt32.toUInt16.toUInt32.toInt32)), .val (.int ((((p2.toUInt32 >>> ((8 : Int32) &&& 31).toUInt32).toInt32) &&& (255 : Int32)).toUInt32.toUInt16.toUInt32.toInt32)), .val (.int ((((p2.toUInt32 >>> ((16 : Int32) &&& 31).toUInt32).toInt32) &&& (255 : Int32)).toUInt32.toUInt16.toUInt32.toInt32))] [(.ref b1)])) _
  obtain ⟨fs, hr, hrun, hended, hW, hsame⟩ := X5.leave (v := some (.ref b1)) (fun h => by rw [Bd.returns] at h; cases h)
  refine ⟨_, _, ?_, hrun, hended, _, _, rfl, ?_, ⟨_, rfl⟩, hW, hsame.mono (by decide) (by decide)⟩
  · exact retOut X5 hx (t := (.object "java/lang/String")) Bd.returns rfl (Or.inr (Or.inr (Or.inr (Or.inr ⟨rfl, rfl, rfl⟩)))) (hb hby d7_1_62) hr
  · exact ⟨b1, t5, _, _, rfl, N5, K5, F5_106, Cc5, Vq5, Vc5⟩
theorem d7_2_0 : decode method_3_code 0 = .ok (.iload_n 1, 1) := by decide +kernel
theorem d7_2_1 : decode method_3_code 1 = .ok (.sipush 255, 3) := by decide +kernel
theorem d7_2_4 : decode method_3_code 4 = .ok (.iand, 1) := by decide +kernel
theorem d7_2_5 : decode method_3_code 5 = .ok (.i2c, 1) := by decide +kernel
theorem d7_2_6 : decode method_3_code 6 = .ok (.istore_n 2, 1) := by decide +kernel
theorem d7_2_7 : decode method_3_code 7 = .ok (.iload_n 1, 1) := by decide +kernel
theorem d7_2_8 : decode method_3_code 8 = .ok (.bipush 8, 2) := by decide +kernel
theorem d7_2_10 : decode method_3_code 10 = .ok (.iushr, 1) := by decide +kernel
theorem d7_2_11 : decode method_3_code 11 = .ok (.sipush 255, 3) := by decide +kernel
theorem d7_2_14 : decode method_3_code 14 = .ok (.iand, 1) := by decide +kernel
theorem d7_2_15 : decode method_3_code 15 = .ok (.i2c, 1) := by decide +kernel
theorem d7_2_16 : decode method_3_code 16 = .ok (.istore_n 3, 1) := by decide +kernel
theorem d7_2_17 : decode method_3_code 17 = .ok (.iload_n 1, 1) := by decide +kernel
theorem d7_2_18 : decode method_3_code 18 = .ok (.bipush 16, 2) := by decide +kernel
theorem d7_2_20 : decode method_3_code 20 = .ok (.iushr, 1) := by decide +kernel
theorem d7_2_21 : decode method_3_code 21 = .ok (.sipush 255, 3) := by decide +kernel
theorem d7_2_24 : decode method_3_code 24 = .ok (.iand, 1) := by decide +kernel
theorem d7_2_25 : decode method_3_code 25 = .ok (.i2c, 1) := by decide +kernel
theorem d7_2_26 : decode method_3_code 26 = .ok (.istore 4, 2) := by decide +kernel
theorem d7_2_28 : decode method_3_code 28 = .ok (.iload_n 0, 1) := by decide +kernel
theorem d7_2_29 : decode method_3_code 29 = .ok (.ifCond .ne 14, 3) := by decide +kernel
theorem d7_2_43 : decode method_3_code 43 = .ok (.iload_n 0, 1) := by decide +kernel
theorem d7_2_44 : decode method_3_code 44 = .ok (.iconst 1, 1) := by decide +kernel
theorem d7_2_45 : decode method_3_code 45 = .ok (.if_icmp .ne 18, 3) := by decide +kernel
theorem d7_2_63 : decode method_3_code 63 = .ok (.iload_n 0, 1) := by decide +kernel
theorem d7_2_64 : decode method_3_code 64 = .ok (.iconst 2, 1) := by decide +kernel
theorem d7_2_65 : decode method_3_code 65 = .ok (.if_icmp .ne 22, 3) := by decide +kernel
theorem d7_2_68 : decode method_3_code 68 = .ok (.new 7, 3) := by decide +kernel
theorem d7_2_71 : decode method_3_code 71 = .ok (.dup, 1) := by decide +kernel
theorem d7_2_72 : decode method_3_code 72 = .ok (.iconst 2, 1) := by decide +kernel
theorem d7_2_73 : decode method_3_code 73 = .ok (.newarray .char, 2) := by decide +kernel
theorem d7_2_75 : decode method_3_code 75 = .ok (.dup, 1) := by decide +kernel
theorem d7_2_76 : decode method_3_code 76 = .ok (.iconst 0, 1) := by decide +kernel
theorem d7_2_77 : decode method_3_code 77 = .ok (.iload_n 2, 1) := by decide +kernel
theorem d7_2_78 : decode method_3_code 78 = .ok (.castore, 1) := by decide +kernel
theorem d7_2_79 : decode method_3_code 79 = .ok (.dup, 1) := by decide +kernel
theorem d7_2_80 : decode method_3_code 80 = .ok (.iconst 1, 1) := by decide +kernel
theorem d7_2_81 : decode method_3_code 81 = .ok (.iload_n 3, 1) := by decide +kernel
theorem d7_2_82 : decode method_3_code 82 = .ok (.castore, 1) := by decide +kernel
theorem d7_2_83 : decode method_3_code 83 = .ok (.invokespecial 9, 3) := by decide +kernel
theorem d7_2_86 : decode method_3_code 86 = .ok (.areturn, 1) := by decide +kernel
theorem pn_7_2 : plainName "com/example/beforehand/beforehand/TextPartLengthPinLaw" = true := by first | (simp [plainName, overriddenIn]; done) | decide +kernel
theorem pd_7_2_0 : parseMethodDescriptor "([C)V" = some ⟨[(.array .char)], none⟩ := by decide +kernel
theorem ef_7_2 (m : MethodId) (x1 : Int32) : entryFrame m #[(.int (2 : Int32)), (.int x1)] 5 = mkF m 0 #[.val (.int (2 : Int32)), .val (.int x1), .unset, .unset, .unset] [] := by first | (simp [entryFrame, mkF, argsToLocals, Value.category]; done) | rfl
def Q7_2 (Z : State) (h0 : Heap) (n0 : Nat) (v : Option Value) (h : Heap) (L : List Loc) : Prop := ∃ (r t : Addr) (k : ClassId) (vs : List Value), v = some (.ref r) ∧ Fr n0 L ∧ Keep h0 h [] ∧ Exa Z h r "java/lang/String" ∧ Fld Z h r "java/lang/String" "coder" "B" (.int (0 : Int32)) ∧ Fld Z h r "java/lang/String" "value" "[B" (.ref t) ∧ Arv Z h t k .byte (2 : Int32) vs (.int (0 : Int32))
set_option maxRecDepth 65536 in
set_option maxHeartbeats 40000000 in
theorem rm7_2 (l : Launch) (Z : State) (a0 : Array Value) (hw : ∀ d ∈ tables_1, d.before a0 Z = true) (ws : List Jvm.Cond) (p2 : Int32) (w0 : Int32) (h0 : Heap) (n0 : Nat) (Z0 : n0 ≤ h0.size) (O0 : Old Z n0 h0) (St : own_St Z w0) :
    MetFree l (⟨"com/example/beforehand/beforehand/TextPartLengthPinLaw", "makeAfter", "(II)Ljava/lang/String;"⟩ : MethodName) (head1 (Jvm.Cond.code (⟨"com/example/beforehand/beforehand/TextPartLengthPinLaw", "makeAfter", "(II)Ljava/lang/String;"⟩ : MethodName) method_3_code 5 (some (.object "java/lang/String")) :: ws) ({ frames := 4, cells := 3, slots := 8, locals := 66 } : Room)) (fun a U => a = #[(.int (2 : Int32)), (.int p2)] ∧ Z.Warmed39 U.vm ∧ U.heap = h0) (fun _ _ _ _ _ => True) (fun _ U o U' => ∃ v L, o = .returned v ∧ Q7_2 Z  h0 n0 v U'.heap L ∧ FrameEnd U o U' L ({ frames := 4, cells := 3, slots := 8, locals := 66 } : Room).cells ({ frames := 4, cells := 3, slots := 8, locals := 66 } : Room).slots) := by
  refine MetFree.of_bodySF (plainFor_of_name pn_7_2) hisR ?_
  intro p e s m args below meth c s₁ Bd hml0 hP hK
  obtain ⟨rfl, hZ, hh⟩ := hP
  have hx := Bd.exec
  have hby := Bd.bytes
  have hml : c.maxLocals = 5 := hml0
  have hown : s.vm.findClass "com/example/beforehand/beforehand/TextPartLengthPinLaw" = some m.cls := findClass_of_methodNamed Bd.named
  have hnm := (name_of_methodNamed Bd.named Bd.method).1
  have X0 : Stand p l e ({ frames := 4, cells := 3, slots := 8, locals := 66 } : Room) s m #[(.int (2 : Int32)), (.int p2)] below meth c s₁ [] 0 0 := Stand.of_body Bd
  have e0 : s₁.heap = h0 := by rw [← hh, Bd.state]; rfl
  have N0 := Fr.nil n0
  refine Goes.via (next := s₁.setTop (mkF m 0 #[.val (.int (2 : Int32)), .val (.int p2), .unset, .unset, .unset] [])) (fun t k => castTop (ef_7_2 m p2) k) ?_
  refine Goes.via (fun t k => XS.iloadN X0.here hx rfl (hb hby d7_2_0) rfl k) ?_
  show Goes p e below (s₁.setTop (mkF m 1 #[.val (.int (2 : Int32)), .val (.int p2), .unset, .unset, .unset] [(.int p2)])) _
  refine Goes.via (fun t k => XS.sipush X0.here hx rfl (hb hby d7_2_1) k) ?_
  show Goes p e below (s₁.setTop (mkF m 4 #[.val (.int (2 : Int32)), .val (.int p2), .unset, .unset, .unset] [(.int (255 : Int32)), (.int p2)])) _
  refine Goes.via (fun t k => XS.iand X0.here hx rfl (hb hby d7_2_4) rfl k) ?_
  show Goes p e below (s₁.setTop (mkF m 5 #[.val (.int (2 : Int32)), .val (.int p2), .unset, .unset, .unset] [(.int (p2 &&& (255 : Int32)))])) _
  refine Goes.via (fun t k => XS.i2c X0.here hx rfl (hb hby d7_2_5) rfl k) ?_
  show Goes p e below (s₁.setTop (mkF m 6 #[.val (.int (2 : Int32)), .val (.int p2), .unset, .unset, .unset] [(.int ((p2 &&& (255 : Int32)).toUInt32.toUInt16.toUInt32.toInt32))])) _
  refine Goes.via (fun t k => XS.istoreN X0.here hx rfl (hb hby d7_2_6) rfl (l' := #[.val (.int (2 : Int32)), .val (.int p2), .val (.int ((p2 &&& (255 : Int32)).toUInt32.toUInt16.toUInt32.toInt32)), .unset, .unset]) rfl k) ?_
  show Goes p e below (s₁.setTop (mkF m 7 #[.val (.int (2 : Int32)), .val (.int p2), .val (.int ((p2 &&& (255 : Int32)).toUInt32.toUInt16.toUInt32.toInt32)), .unset, .unset] [])) _
  refine Goes.via (fun t k => XS.iloadN X0.here hx rfl (hb hby d7_2_7) rfl k) ?_
  show Goes p e below (s₁.setTop (mkF m 8 #[.val (.int (2 : Int32)), .val (.int p2), .val (.int ((p2 &&& (255 : Int32)).toUInt32.toUInt16.toUInt32.toInt32)), .unset, .unset] [(.int p2)])) _
  refine Goes.via (fun t k => XS.bipush X0.here hx rfl (hb hby d7_2_8) k) ?_
  show Goes p e below (s₁.setTop (mkF m 10 #[.val (.int (2 : Int32)), .val (.int p2), .val (.int ((p2 &&& (255 : Int32)).toUInt32.toUInt16.toUInt32.toInt32)), .unset, .unset] [(.int (8 : Int32)), (.int p2)])) _
  refine Goes.via (fun t k => XS.iushr X0.here hx rfl (hb hby d7_2_10) rfl k) ?_
  show Goes p e below (s₁.setTop (mkF m 11 #[.val (.int (2 : Int32)), .val (.int p2), .val (.int ((p2 &&& (255 : Int32)).toUInt32.toUInt16.toUInt32.toInt32)), .unset, .unset] [(.int ((p2.toUInt32 >>> ((8 : Int32) &&& 31).toUInt32).toInt32))])) _
  refine Goes.via (fun t k => XS.sipush X0.here hx rfl (hb hby d7_2_11) k) ?_
  show Goes p e below (s₁.setTop (mkF m 14 #[.val (.int (2 : Int32)), .val (.int p2), .val (.int ((p2 &&& (255 : Int32)).toUInt32.toUInt16.toUInt32.toInt32)), .unset, .unset] [(.int (255 : Int32)), (.int ((p2.toUInt32 >>> ((8 : Int32) &&& 31).toUInt32).toInt32))])) _
  refine Goes.via (fun t k => XS.iand X0.here hx rfl (hb hby d7_2_14) rfl k) ?_
  show Goes p e below (s₁.setTop (mkF m 15 #[.val (.int (2 : Int32)), .val (.int p2), .val (.int ((p2 &&& (255 : Int32)).toUInt32.toUInt16.toUInt32.toInt32)), .unset, .unset] [(.int (((p2.toUInt32 >>> ((8 : Int32) &&& 31).toUInt32).toInt32) &&& (255 : Int32)))])) _
  refine Goes.via (fun t k => XS.i2c X0.here hx rfl (hb hby d7_2_15) rfl k) ?_
  show Goes p e below (s₁.setTop (mkF m 16 #[.val (.int (2 : Int32)), .val (.int p2), .val (.int ((p2 &&& (255 : Int32)).toUInt32.toUInt16.toUInt32.toInt32)), .unset, .unset] [(.int ((((p2.toUInt32 >>> ((8 : Int32) &&& 31).toUInt32).toInt32) &&& (255 : Int32)).toUInt32.toUInt16.toUInt32.toInt32))])) _
  refine Goes.via (fun t k => XS.istoreN X0.here hx rfl (hb hby d7_2_16) rfl (l' := #[.val (.int (2 : Int32)), .val (.int p2), .val (.int ((p2 &&& (255 : Int32)).toUInt32.toUInt16.toUInt32.toInt32)), .val (.int ((((p2.toUInt32 >>> ((8 : Int32) &&& 31).toUInt32).toInt32) &&& (255 : Int32)).toUInt32.toUInt16.toUInt32.toInt32)), .unset]) rfl k) ?_
  show Goes p e below (s₁.setTop (mkF m 17 #[.val (.int (2 : Int32)), .val (.int p2), .val (.int ((p2 &&& (255 : Int32)).toUInt32.toUInt16.toUInt32.toInt32)), .val (.int ((((p2.toUInt32 >>> ((8 : Int32) &&& 31).toUInt32).toInt32) &&& (255 : Int32)).toUInt32.toUInt16.toUInt32.toInt32)), .unset] [])) _
  refine Goes.via (fun t k => XS.iloadN X0.here hx rfl (hb hby d7_2_17) rfl k) ?_
  show Goes p e below (s₁.setTop (mkF m 18 #[.val (.int (2 : Int32)), .val (.int p2), .val (.int ((p2 &&& (255 : Int32)).toUInt32.toUInt16.toUInt32.toInt32)), .val (.int ((((p2.toUInt32 >>> ((8 : Int32) &&& 31).toUInt32).toInt32) &&& (255 : Int32)).toUInt32.toUInt16.toUInt32.toInt32)), .unset] [(.int p2)])) _
  refine Goes.via (fun t k => XS.bipush X0.here hx rfl (hb hby d7_2_18) k) ?_
  show Goes p e below (s₁.setTop (mkF m 20 #[.val (.int (2 : Int32)), .val (.int p2), .val (.int ((p2 &&& (255 : Int32)).toUInt32.toUInt16.toUInt32.toInt32)), .val (.int ((((p2.toUInt32 >>> ((8 : Int32) &&& 31).toUInt32).toInt32) &&& (255 : Int32)).toUInt32.toUInt16.toUInt32.toInt32)), .unset] [(.int (16 : Int32)), (.int p2)])) _
  refine Goes.via (fun t k => XS.iushr X0.here hx rfl (hb hby d7_2_20) rfl k) ?_
  show Goes p e below (s₁.setTop (mkF m 21 #[.val (.int (2 : Int32)), .val (.int p2), .val (.int ((p2 &&& (255 : Int32)).toUInt32.toUInt16.toUInt32.toInt32)), .val (.int ((((p2.toUInt32 >>> ((8 : Int32) &&& 31).toUInt32).toInt32) &&& (255 : Int32)).toUInt32.toUInt16.toUInt32.toInt32)), .unset] [(.int ((p2.toUInt32 >>> ((16 : Int32) &&& 31).toUInt32).toInt32))])) _
  refine Goes.via (fun t k => XS.sipush X0.here hx rfl (hb hby d7_2_21) k) ?_
  show Goes p e below (s₁.setTop (mkF m 24 #[.val (.int (2 : Int32)), .val (.int p2), .val (.int ((p2 &&& (255 : Int32)).toUInt32.toUInt16.toUInt32.toInt32)), .val (.int ((((p2.toUInt32 >>> ((8 : Int32) &&& 31).toUInt32).toInt32) &&& (255 : Int32)).toUInt32.toUInt16.toUInt32.toInt32)), .unset] [(.int (255 : Int32)), (.int ((p2.toUInt32 >>> ((16 : Int32) &&& 31).toUInt32).toInt32))])) _
  refine Goes.via (fun t k => XS.iand X0.here hx rfl (hb hby d7_2_24) rfl k) ?_
  show Goes p e below (s₁.setTop (mkF m 25 #[.val (.int (2 : Int32)), .val (.int p2), .val (.int ((p2 &&& (255 : Int32)).toUInt32.toUInt16.toUInt32.toInt32)), .val (.int ((((p2.toUInt32 >>> ((8 : Int32) &&& 31).toUInt32).toInt32) &&& (255 : Int32)).toUInt32.toUInt16.toUInt32.toInt32)), .unset] [(.int (((p2.toUInt32 >>> ((16 : Int32) &&& 31).toUInt32).toInt32) &&& (255 : Int32)))])) _
  refine Goes.via (fun t k => XS.i2c X0.here hx rfl (hb hby d7_2_25) rfl k) ?_
  show Goes p e below (s₁.setTop (mkF m 26 #[.val (.int (2 : Int32)), .val (.int p2), .val (.int ((p2 &&& (255 : Int32)).toUInt32.toUInt16.toUInt32.toInt32)), .val (.int ((((p2.toUInt32 >>> ((8 : Int32) &&& 31).toUInt32).toInt32) &&& (255 : Int32)).toUInt32.toUInt16.toUInt32.toInt32)), .unset] [(.int ((((p2.toUInt32 >>> ((16 : Int32) &&& 31).toUInt32).toInt32) &&& (255 : Int32)).toUInt32.toUInt16.toUInt32.toInt32))])) _
  refine Goes.via (fun t k => XS.istore X0.here hx rfl (hb hby d7_2_26) rfl (l' := #[.val (.int (2 : Int32)), .val (.int p2), .val (.int ((p2 &&& (255 : Int32)).toUInt32.toUInt16.toUInt32.toInt32)), .val (.int ((((p2.toUInt32 >>> ((8 : Int32) &&& 31).toUInt32).toInt32) &&& (255 : Int32)).toUInt32.toUInt16.toUInt32.toInt32)), .val (.int ((((p2.toUInt32 >>> ((16 : Int32) &&& 31).toUInt32).toInt32) &&& (255 : Int32)).toUInt32.toUInt16.toUInt32.toInt32))]) rfl k) ?_
  show Goes p e below (s₁.setTop (mkF m 28 #[.val (.int (2 : Int32)), .val (.int p2), .val (.int ((p2 &&& (255 : Int32)).toUInt32.toUInt16.toUInt32.toInt32)), .val (.int ((((p2.toUInt32 >>> ((8 : Int32) &&& 31).toUInt32).toInt32) &&& (255 : Int32)).toUInt32.toUInt16.toUInt32.toInt32)), .val (.int ((((p2.toUInt32 >>> ((16 : Int32) &&& 31).toUInt32).toInt32) &&& (255 : Int32)).toUInt32.toUInt16.toUInt32.toInt32))] [])) _
  refine Goes.via (fun t k => XS.iloadN X0.here hx rfl (hb hby d7_2_28) rfl k) ?_
  show Goes p e below (s₁.setTop (mkF m 29 #[.val (.int (2 : Int32)), .val (.int p2), .val (.int ((p2 &&& (255 : Int32)).toUInt32.toUInt16.toUInt32.toInt32)), .val (.int ((((p2.toUInt32 >>> ((8 : Int32) &&& 31).toUInt32).toInt32) &&& (255 : Int32)).toUInt32.toUInt16.toUInt32.toInt32)), .val (.int ((((p2.toUInt32 >>> ((16 : Int32) &&& 31).toUInt32).toInt32) &&& (255 : Int32)).toUInt32.toUInt16.toUInt32.toInt32))] [(.int (2 : Int32))])) _
  refine Goes.via (fun t k => XS.ifYes X0.here hx rfl (pc0 := 29) (pc' := 43) rfl (hb hby d7_2_29) rfl ((if0 _ _).trans (feq (show ¬ ((2 : Int32) = (0 : Int32)) from (by decide))).2) (by decide) (by decide) k) ?_
  show Goes p e below (s₁.setTop (mkF m 43 #[.val (.int (2 : Int32)), .val (.int p2), .val (.int ((p2 &&& (255 : Int32)).toUInt32.toUInt16.toUInt32.toInt32)), .val (.int ((((p2.toUInt32 >>> ((8 : Int32) &&& 31).toUInt32).toInt32) &&& (255 : Int32)).toUInt32.toUInt16.toUInt32.toInt32)), .val (.int ((((p2.toUInt32 >>> ((16 : Int32) &&& 31).toUInt32).toInt32) &&& (255 : Int32)).toUInt32.toUInt16.toUInt32.toInt32))] [])) _
  refine Goes.via (fun t k => XS.iloadN X0.here hx rfl (hb hby d7_2_43) rfl k) ?_
  show Goes p e below (s₁.setTop (mkF m 44 #[.val (.int (2 : Int32)), .val (.int p2), .val (.int ((p2 &&& (255 : Int32)).toUInt32.toUInt16.toUInt32.toInt32)), .val (.int ((((p2.toUInt32 >>> ((8 : Int32) &&& 31).toUInt32).toInt32) &&& (255 : Int32)).toUInt32.toUInt16.toUInt32.toInt32)), .val (.int ((((p2.toUInt32 >>> ((16 : Int32) &&& 31).toUInt32).toInt32) &&& (255 : Int32)).toUInt32.toUInt16.toUInt32.toInt32))] [(.int (2 : Int32))])) _
  refine Goes.via (fun t k => XS.iconst X0.here hx rfl (hb hby d7_2_44) k) ?_
  show Goes p e below (s₁.setTop (mkF m 45 #[.val (.int (2 : Int32)), .val (.int p2), .val (.int ((p2 &&& (255 : Int32)).toUInt32.toUInt16.toUInt32.toInt32)), .val (.int ((((p2.toUInt32 >>> ((8 : Int32) &&& 31).toUInt32).toInt32) &&& (255 : Int32)).toUInt32.toUInt16.toUInt32.toInt32)), .val (.int ((((p2.toUInt32 >>> ((16 : Int32) &&& 31).toUInt32).toInt32) &&& (255 : Int32)).toUInt32.toUInt16.toUInt32.toInt32))] [(.int (1 : Int32)), (.int (2 : Int32))])) _
  refine Goes.via (fun t k => XS.icmpYes X0.here hx rfl (pc0 := 45) (pc' := 63) rfl (hb hby d7_2_45) rfl (feq (show ¬ ((2 : Int32) = (1 : Int32)) from (by decide))).2 (by decide) (by decide) k) ?_
  show Goes p e below (s₁.setTop (mkF m 63 #[.val (.int (2 : Int32)), .val (.int p2), .val (.int ((p2 &&& (255 : Int32)).toUInt32.toUInt16.toUInt32.toInt32)), .val (.int ((((p2.toUInt32 >>> ((8 : Int32) &&& 31).toUInt32).toInt32) &&& (255 : Int32)).toUInt32.toUInt16.toUInt32.toInt32)), .val (.int ((((p2.toUInt32 >>> ((16 : Int32) &&& 31).toUInt32).toInt32) &&& (255 : Int32)).toUInt32.toUInt16.toUInt32.toInt32))] [])) _
  refine Goes.via (fun t k => XS.iloadN X0.here hx rfl (hb hby d7_2_63) rfl k) ?_
  show Goes p e below (s₁.setTop (mkF m 64 #[.val (.int (2 : Int32)), .val (.int p2), .val (.int ((p2 &&& (255 : Int32)).toUInt32.toUInt16.toUInt32.toInt32)), .val (.int ((((p2.toUInt32 >>> ((8 : Int32) &&& 31).toUInt32).toInt32) &&& (255 : Int32)).toUInt32.toUInt16.toUInt32.toInt32)), .val (.int ((((p2.toUInt32 >>> ((16 : Int32) &&& 31).toUInt32).toInt32) &&& (255 : Int32)).toUInt32.toUInt16.toUInt32.toInt32))] [(.int (2 : Int32))])) _
  refine Goes.via (fun t k => XS.iconst X0.here hx rfl (hb hby d7_2_64) k) ?_
  show Goes p e below (s₁.setTop (mkF m 65 #[.val (.int (2 : Int32)), .val (.int p2), .val (.int ((p2 &&& (255 : Int32)).toUInt32.toUInt16.toUInt32.toInt32)), .val (.int ((((p2.toUInt32 >>> ((8 : Int32) &&& 31).toUInt32).toInt32) &&& (255 : Int32)).toUInt32.toUInt16.toUInt32.toInt32)), .val (.int ((((p2.toUInt32 >>> ((16 : Int32) &&& 31).toUInt32).toInt32) &&& (255 : Int32)).toUInt32.toUInt16.toUInt32.toInt32))] [(.int (2 : Int32)), (.int (2 : Int32))])) _
  refine Goes.via (fun t k => XS.icmpNo X0.here hx rfl (hb hby d7_2_65) rfl (teq (show (2 : Int32) = (2 : Int32) from rfl)).2 k) ?_
  show Goes p e below (s₁.setTop (mkF m 68 #[.val (.int (2 : Int32)), .val (.int p2), .val (.int ((p2 &&& (255 : Int32)).toUInt32.toUInt16.toUInt32.toInt32)), .val (.int ((((p2.toUInt32 >>> ((8 : Int32) &&& 31).toUInt32).toInt32) &&& (255 : Int32)).toUInt32.toUInt16.toUInt32.toInt32)), .val (.int ((((p2.toUInt32 >>> ((16 : Int32) &&& 31).toUInt32).toInt32) &&& (255 : Int32)).toUInt32.toUInt16.toUInt32.toInt32))] [])) _
  obtain ⟨T1, h1, X1, e1, E1, A1, D1, -, st1⟩ := newO X0 hx hZ hown (hw _ (List.mem_of_getElem? (i := 1) rfl)) (hw _ (List.mem_of_getElem? (i := 2) rfl)) (hw _ (List.mem_of_getElem? (i := 3) rfl)) e0 (g := (mkF m 68 #[.val (.int (2 : Int32)), .val (.int p2), .val (.int ((p2 &&& (255 : Int32)).toUInt32.toUInt16.toUInt32.toInt32)), .val (.int ((((p2.toUInt32 >>> ((8 : Int32) &&& 31).toUInt32).toInt32) &&& (255 : Int32)).toUInt32.toUInt16.toUInt32.toInt32)), .val (.int ((((p2.toUInt32 >>> ((16 : Int32) &&& 31).toUInt32).toInt32) &&& (255 : Int32)).toUInt32.toUInt16.toUInt32.toInt32))] [])) rfl (hb hby d7_2_68) (by decide) (by decide)
  obtain ⟨b1, g1⟩ : ∃ z, z = h0.size := ⟨_, rfl⟩
  rw [← g1] at A1 D1 st1
  have ge_b1 : n0 ≤ b1 := Nat.le_trans Z0 (Nat.le_of_eq g1.symm)
  have sz_b1 : h0.size ≤ b1 := Nat.le_trans (Keep.refl h0 []).1 (Nat.le_of_eq g1.symm)
  have K1 : Keep h0 h1 [] := (Keep.refl h0 []).ext E1
  have Z1 : n0 ≤ h1.size := Nat.le_trans Z0 E1.1
  have O1 := O0.ext E1
  have F1_coder : Fld Z h1 b1 "java/lang/String" "coder" "B" (.int (0 : Int32)) := D1 (Or.inr (hw _ (List.mem_of_getElem? (i := 27) rfl))) (ty := .byte) (by decide)
  have F1_value : Fld Z h1 b1 "java/lang/String" "value" "[B" .null := D1 (Or.inr (hw _ (List.mem_of_getElem? (i := 29) rfl))) (ty := (.array .byte)) (by decide)
  refine Goes.via st1 ?_
  show Goes p e below (T1.setTop (mkF m 71 #[.val (.int (2 : Int32)), .val (.int p2), .val (.int ((p2 &&& (255 : Int32)).toUInt32.toUInt16.toUInt32.toInt32)), .val (.int ((((p2.toUInt32 >>> ((8 : Int32) &&& 31).toUInt32).toInt32) &&& (255 : Int32)).toUInt32.toUInt16.toUInt32.toInt32)), .val (.int ((((p2.toUInt32 >>> ((16 : Int32) &&& 31).toUInt32).toInt32) &&& (255 : Int32)).toUInt32.toUInt16.toUInt32.toInt32))] [(.ref b1)])) _
  refine Goes.via (fun t k => XS.dup X1.here hx rfl (hb hby d7_2_71) rfl rfl k) ?_
  show Goes p e below (T1.setTop (mkF m 72 #[.val (.int (2 : Int32)), .val (.int p2), .val (.int ((p2 &&& (255 : Int32)).toUInt32.toUInt16.toUInt32.toInt32)), .val (.int ((((p2.toUInt32 >>> ((8 : Int32) &&& 31).toUInt32).toInt32) &&& (255 : Int32)).toUInt32.toUInt16.toUInt32.toInt32)), .val (.int ((((p2.toUInt32 >>> ((16 : Int32) &&& 31).toUInt32).toInt32) &&& (255 : Int32)).toUInt32.toUInt16.toUInt32.toInt32))] [(.ref b1), (.ref b1)])) _
  refine Goes.via (fun t k => XS.iconst X1.here hx rfl (hb hby d7_2_72) k) ?_
  show Goes p e below (T1.setTop (mkF m 73 #[.val (.int (2 : Int32)), .val (.int p2), .val (.int ((p2 &&& (255 : Int32)).toUInt32.toUInt16.toUInt32.toInt32)), .val (.int ((((p2.toUInt32 >>> ((8 : Int32) &&& 31).toUInt32).toInt32) &&& (255 : Int32)).toUInt32.toUInt16.toUInt32.toInt32)), .val (.int ((((p2.toUInt32 >>> ((16 : Int32) &&& 31).toUInt32).toInt32) &&& (255 : Int32)).toUInt32.toUInt16.toUInt32.toInt32))] [(.int (2 : Int32)), (.ref b1), (.ref b1)])) _
  obtain ⟨T2, h2, ka2, X2, e2, E2, A2, st2⟩ := newP X1 hx hZ (hw _ (List.mem_of_getElem? (i := 0) rfl)) e1 (g := (mkF m 73 #[.val (.int (2 : Int32)), .val (.int p2), .val (.int ((p2 &&& (255 : Int32)).toUInt32.toUInt16.toUInt32.toInt32)), .val (.int ((((p2.toUInt32 >>> ((8 : Int32) &&& 31).toUInt32).toInt32) &&& (255 : Int32)).toUInt32.toUInt16.toUInt32.toInt32)), .val (.int ((((p2.toUInt32 >>> ((16 : Int32) &&& 31).toUInt32).toInt32) &&& (255 : Int32)).toUInt32.toUInt16.toUInt32.toInt32))] [(.int (2 : Int32)), (.ref b1), (.ref b1)])) rfl (hb hby d7_2_73) rfl (by decide) (cap := 2) (by decide) (by decide) (by decide) (by decide)
  obtain ⟨b2, g2⟩ : ∃ z, z = h1.size := ⟨_, rfl⟩
  rw [← g2] at A2 st2
  have lt_b1_b2 : b1 < b2 := Nat.lt_of_lt_of_le A1.lt (Nat.le_of_eq g2.symm)
  have ge_b2 : n0 ≤ b2 := Nat.le_trans Z1 (Nat.le_of_eq g2.symm)
  have sz_b2 : h0.size ≤ b2 := Nat.le_trans K1.1 (Nat.le_of_eq g2.symm)
  have F2_76 := A1.ext E2
  have F2_77 := F1_coder.ext E2
  have F2_78 := F1_value.ext E2
  have K2 : Keep h0 h2 [] := K1.ext E2
  have Z2 : n0 ≤ h2.size := Nat.le_trans Z1 E2.1
  have O2 := O1.ext E2
  have V2 : Arv Z h2 b2 ka2 .char (2 : Int32) [(.int (0 : Int32)), (.int (0 : Int32))] (.int (0 : Int32)) := (Arv.new A2 (by decide)).pad (pad_rep [] (.int (0 : Int32)) 2)
  refine Goes.via st2 ?_
  show Goes p e below (T2.setTop (mkF m 75 #[.val (.int (2 : Int32)), .val (.int p2), .val (.int ((p2 &&& (255 : Int32)).toUInt32.toUInt16.toUInt32.toInt32)), .val (.int ((((p2.toUInt32 >>> ((8 : Int32) &&& 31).toUInt32).toInt32) &&& (255 : Int32)).toUInt32.toUInt16.toUInt32.toInt32)), .val (.int ((((p2.toUInt32 >>> ((16 : Int32) &&& 31).toUInt32).toInt32) &&& (255 : Int32)).toUInt32.toUInt16.toUInt32.toInt32))] [(.ref b2), (.ref b1), (.ref b1)])) _
  refine Goes.via (fun t k => XS.dup X2.here hx rfl (hb hby d7_2_75) rfl rfl k) ?_
  show Goes p e below (T2.setTop (mkF m 76 #[.val (.int (2 : Int32)), .val (.int p2), .val (.int ((p2 &&& (255 : Int32)).toUInt32.toUInt16.toUInt32.toInt32)), .val (.int ((((p2.toUInt32 >>> ((8 : Int32) &&& 31).toUInt32).toInt32) &&& (255 : Int32)).toUInt32.toUInt16.toUInt32.toInt32)), .val (.int ((((p2.toUInt32 >>> ((16 : Int32) &&& 31).toUInt32).toInt32) &&& (255 : Int32)).toUInt32.toUInt16.toUInt32.toInt32))] [(.ref b2), (.ref b2), (.ref b1), (.ref b1)])) _
  refine Goes.via (fun t k => XS.iconst X2.here hx rfl (hb hby d7_2_76) k) ?_
  show Goes p e below (T2.setTop (mkF m 77 #[.val (.int (2 : Int32)), .val (.int p2), .val (.int ((p2 &&& (255 : Int32)).toUInt32.toUInt16.toUInt32.toInt32)), .val (.int ((((p2.toUInt32 >>> ((8 : Int32) &&& 31).toUInt32).toInt32) &&& (255 : Int32)).toUInt32.toUInt16.toUInt32.toInt32)), .val (.int ((((p2.toUInt32 >>> ((16 : Int32) &&& 31).toUInt32).toInt32) &&& (255 : Int32)).toUInt32.toUInt16.toUInt32.toInt32))] [(.int (0 : Int32)), (.ref b2), (.ref b2), (.ref b1), (.ref b1)])) _
  refine Goes.via (fun t k => XS.iloadN X2.here hx rfl (hb hby d7_2_77) rfl k) ?_
  show Goes p e below (T2.setTop (mkF m 78 #[.val (.int (2 : Int32)), .val (.int p2), .val (.int ((p2 &&& (255 : Int32)).toUInt32.toUInt16.toUInt32.toInt32)), .val (.int ((((p2.toUInt32 >>> ((8 : Int32) &&& 31).toUInt32).toInt32) &&& (255 : Int32)).toUInt32.toUInt16.toUInt32.toInt32)), .val (.int ((((p2.toUInt32 >>> ((16 : Int32) &&& 31).toUInt32).toInt32) &&& (255 : Int32)).toUInt32.toUInt16.toUInt32.toInt32))] [(.int ((p2 &&& (255 : Int32)).toUInt32.toUInt16.toUInt32.toInt32)), (.int (0 : Int32)), (.ref b2), (.ref b2), (.ref b1), (.ref b1)])) _
  obtain ⟨cl3, Ar3, qa3, Sa3, Na3, Ha3, Ga3⟩ := V2
  have hin3 : ¬ ((0 : Int32) < 0 ∨ cl3.slots.size ≤ ((0 : Int32)).toNatClampNeg) := inb_of Sa3 ⟨by decide, by decide⟩
  obtain ⟨T3, h3, X3, e3, W3, st3⟩ := stC X2 hx hZ e2 Ar3 (j := (0 : Int32)) hin3 (g := (mkF m 78 #[.val (.int (2 : Int32)), .val (.int p2), .val (.int ((p2 &&& (255 : Int32)).toUInt32.toUInt16.toUInt32.toInt32)), .val (.int ((((p2.toUInt32 >>> ((8 : Int32) &&& 31).toUInt32).toInt32) &&& (255 : Int32)).toUInt32.toUInt16.toUInt32.toInt32)), .val (.int ((((p2.toUInt32 >>> ((16 : Int32) &&& 31).toUInt32).toInt32) &&& (255 : Int32)).toUInt32.toUInt16.toUInt32.toInt32))] [(.int ((p2 &&& (255 : Int32)).toUInt32.toUInt16.toUInt32.toInt32)), (.int (0 : Int32)), (.ref b2), (.ref b2), (.ref b1), (.ref b1)])) rfl rfl (hb hby d7_2_78)
  have V3 : Arv Z h3 b2 ka2 .char (2 : Int32) [(.int (nar .char ((p2 &&& (255 : Int32)).toUInt32.toUInt16.toUInt32.toInt32))), (.int (0 : Int32))] (.int (0 : Int32)) := Arv.set Ar3 qa3 Sa3 Na3 Ha3 Ga3 (fits_nar_char _) W3 0 rfl (Nat.le_of_ble_eq_true rfl)
  have F3_95 := F2_76.wr W3
  have F3_96 := F2_77.other W3 (Or.inl (Nat.ne_of_lt lt_b1_b2))
  have F3_97 := F2_78.other W3 (Or.inl (Nat.ne_of_lt lt_b1_b2))
  have K3 : Keep h0 h3 [] := K2.wr W3 (Or.inr sz_b2)
  have Z3 : n0 ≤ h3.size := Nat.le_trans Z2 (Keep.of_wr W3).1
  have N3 := Fr.snoc X3 N0 ge_b2
  have O3 := O2.wr W3 ge_b2
  refine Goes.via st3 ?_
  show Goes p e below (T3.setTop (mkF m 79 #[.val (.int (2 : Int32)), .val (.int p2), .val (.int ((p2 &&& (255 : Int32)).toUInt32.toUInt16.toUInt32.toInt32)), .val (.int ((((p2.toUInt32 >>> ((8 : Int32) &&& 31).toUInt32).toInt32) &&& (255 : Int32)).toUInt32.toUInt16.toUInt32.toInt32)), .val (.int ((((p2.toUInt32 >>> ((16 : Int32) &&& 31).toUInt32).toInt32) &&& (255 : Int32)).toUInt32.toUInt16.toUInt32.toInt32))] [(.ref b2), (.ref b1), (.ref b1)])) _
  refine Goes.via (fun t k => XS.dup X3.here hx rfl (hb hby d7_2_79) rfl rfl k) ?_
  show Goes p e below (T3.setTop (mkF m 80 #[.val (.int (2 : Int32)), .val (.int p2), .val (.int ((p2 &&& (255 : Int32)).toUInt32.toUInt16.toUInt32.toInt32)), .val (.int ((((p2.toUInt32 >>> ((8 : Int32) &&& 31).toUInt32).toInt32) &&& (255 : Int32)).toUInt32.toUInt16.toUInt32.toInt32)), .val (.int ((((p2.toUInt32 >>> ((16 : Int32) &&& 31).toUInt32).toInt32) &&& (255 : Int32)).toUInt32.toUInt16.toUInt32.toInt32))] [(.ref b2), (.ref b2), (.ref b1), (.ref b1)])) _
  refine Goes.via (fun t k => XS.iconst X3.here hx rfl (hb hby d7_2_80) k) ?_
  show Goes p e below (T3.setTop (mkF m 81 #[.val (.int (2 : Int32)), .val (.int p2), .val (.int ((p2 &&& (255 : Int32)).toUInt32.toUInt16.toUInt32.toInt32)), .val (.int ((((p2.toUInt32 >>> ((8 : Int32) &&& 31).toUInt32).toInt32) &&& (255 : Int32)).toUInt32.toUInt16.toUInt32.toInt32)), .val (.int ((((p2.toUInt32 >>> ((16 : Int32) &&& 31).toUInt32).toInt32) &&& (255 : Int32)).toUInt32.toUInt16.toUInt32.toInt32))] [(.int (1 : Int32)), (.ref b2), (.ref b2), (.ref b1), (.ref b1)])) _
  refine Goes.via (fun t k => XS.iloadN X3.here hx rfl (hb hby d7_2_81) rfl k) ?_
  show Goes p e below (T3.setTop (mkF m 82 #[.val (.int (2 : Int32)), .val (.int p2), .val (.int ((p2 &&& (255 : Int32)).toUInt32.toUInt16.toUInt32.toInt32)), .val (.int ((((p2.toUInt32 >>> ((8 : Int32) &&& 31).toUInt32).toInt32) &&& (255 : Int32)).toUInt32.toUInt16.toUInt32.toInt32)), .val (.int ((((p2.toUInt32 >>> ((16 : Int32) &&& 31).toUInt32).toInt32) &&& (255 : Int32)).toUInt32.toUInt16.toUInt32.toInt32))] [(.int ((((p2.toUInt32 >>> ((8 : Int32) &&& 31).toUInt32).toInt32) &&& (255 : Int32)).toUInt32.toUInt16.toUInt32.toInt32)), (.int (1 : Int32)), (.ref b2), (.ref b2), (.ref b1), (.ref b1)])) _
  obtain ⟨cl4, Ar4, qa4, Sa4, Na4, Ha4, Ga4⟩ := V3
  have hin4 : ¬ ((1 : Int32) < 0 ∨ cl4.slots.size ≤ ((1 : Int32)).toNatClampNeg) := inb_of Sa4 ⟨by decide, by decide⟩
  obtain ⟨T4, h4, X4, e4, W4, st4⟩ := stC X3 hx hZ e3 Ar4 (j := (1 : Int32)) hin4 (g := (mkF m 82 #[.val (.int (2 : Int32)), .val (.int p2), .val (.int ((p2 &&& (255 : Int32)).toUInt32.toUInt16.toUInt32.toInt32)), .val (.int ((((p2.toUInt32 >>> ((8 : Int32) &&& 31).toUInt32).toInt32) &&& (255 : Int32)).toUInt32.toUInt16.toUInt32.toInt32)), .val (.int ((((p2.toUInt32 >>> ((16 : Int32) &&& 31).toUInt32).toInt32) &&& (255 : Int32)).toUInt32.toUInt16.toUInt32.toInt32))] [(.int ((((p2.toUInt32 >>> ((8 : Int32) &&& 31).toUInt32).toInt32) &&& (255 : Int32)).toUInt32.toUInt16.toUInt32.toInt32)), (.int (1 : Int32)), (.ref b2), (.ref b2), (.ref b1), (.ref b1)])) rfl rfl (hb hby d7_2_82)
  have V4 : Arv Z h4 b2 ka2 .char (2 : Int32) [(.int (nar .char ((p2 &&& (255 : Int32)).toUInt32.toUInt16.toUInt32.toInt32))), (.int (nar .char ((((p2.toUInt32 >>> ((8 : Int32) &&& 31).toUInt32).toInt32) &&& (255 : Int32)).toUInt32.toUInt16.toUInt32.toInt32)))] (.int (0 : Int32)) := Arv.set Ar4 qa4 Sa4 Na4 Ha4 Ga4 (fits_nar_char _) W4 1 rfl (Nat.le_of_ble_eq_true rfl)
  have F4_114 := F3_95.wr W4
  have F4_115 := F3_96.other W4 (Or.inl (Nat.ne_of_lt lt_b1_b2))
  have F4_116 := F3_97.other W4 (Or.inl (Nat.ne_of_lt lt_b1_b2))
  have K4 : Keep h0 h4 [] := K3.wr W4 (Or.inr sz_b2)
  have Z4 : n0 ≤ h4.size := Nat.le_trans Z3 (Keep.of_wr W4).1
  have N4 := Fr.snoc X4 N3 ge_b2
  have O4 := O3.wr W4 ge_b2
  refine Goes.via st4 ?_
  show Goes p e below (T4.setTop (mkF m 83 #[.val (.int (2 : Int32)), .val (.int p2), .val (.int ((p2 &&& (255 : Int32)).toUInt32.toUInt16.toUInt32.toInt32)), .val (.int ((((p2.toUInt32 >>> ((8 : Int32) &&& 31).toUInt32).toInt32) &&& (255 : Int32)).toUInt32.toUInt16.toUInt32.toInt32)), .val (.int ((((p2.toUInt32 >>> ((16 : Int32) &&& 31).toUInt32).toInt32) &&& (255 : Int32)).toUInt32.toUInt16.toUInt32.toInt32))] [(.ref b2), (.ref b1), (.ref b1)])) _
  try clear st4; try clear W4; try clear hin4; try clear Ga4; try clear Ha4; try clear Na4; try clear Sa4; try clear qa4; try clear Ar4; try clear cl4; try clear O3; try clear N3
  try clear Z3; try clear K3; try clear F3_97; try clear F3_96; try clear F3_95; try clear V3; try clear st3; try clear W3; try clear e3; try clear X3; try clear h3; try clear T3
  try clear hin3; try clear Ga3; try clear Ha3; try clear Na3; try clear Sa3; try clear qa3; try clear Ar3; try clear cl3; try clear V2; try clear O2; try clear Z2; try clear K2
  try clear F2_78; try clear F2_77; try clear F2_76; try clear g2; try clear st2; try clear A2; try clear E2; try clear e2; try clear X2; try clear h2; try clear T2; try clear F1_value
  try clear F1_coder; try clear O1; try clear Z1; try clear K1; try clear size; try clear h0; try clear g1; try clear st1; try clear D1; try clear A1; try clear E1; try clear e1
  try clear X1; try clear h1; try clear T1
  obtain ⟨Lw5, X5w, N5w⟩ := ownPack X4 N4
  obtain ⟨_, _, ⟨T6, L6, k6, n6⟩, -, X6, ⟨Lc6, hQ6, l6, y6, z6⟩, st6⟩ := X5w.specialBack hx (y := (⟨"java/lang/String", "<init>", "([C)V"⟩ : MethodName)) rfl hown (mvT hZ (hw _ (List.mem_of_getElem? (i := 4) rfl))) (mvT hZ (hw _ (List.mem_of_getElem? (i := 5) rfl))) (mvT hZ (hw _ (List.mem_of_getElem? (i := 6) rfl))) (by decide) (backOf (W := 1) (rm1_2 l Z a0 hw [] b1 b2 ka2 (nar .char ((p2 &&& (255 : Int32)).toUInt32.toUInt16.toUInt32.toInt32)) (nar .char ((((p2.toUInt32 >>> ((8 : Int32) &&& 31).toUInt32).toInt32) &&& (255 : Int32)).toUInt32.toUInt16.toUInt32.toInt32)) w0 h4 n0 Z4 F4_114 F4_116 F4_115 V4 ge_b1 (Nat.ne_of_lt lt_b1_b2) O4 St (own_c255 _) (own_c255 _)) hZ (hw _ (List.mem_of_getElem? (i := 6) rfl)) (hw _ (List.mem_of_getElem? (i := 3) rfl)) (by decide) (by decide)) (g := (mkF m 83 #[.val (.int (2 : Int32)), .val (.int p2), .val (.int ((p2 &&& (255 : Int32)).toUInt32.toUInt16.toUInt32.toInt32)), .val (.int ((((p2.toUInt32 >>> ((8 : Int32) &&& 31).toUInt32).toInt32) &&& (255 : Int32)).toUInt32.toUInt16.toUInt32.toInt32)), .val (.int ((((p2.toUInt32 >>> ((16 : Int32) &&& 31).toUInt32).toInt32) &&& (255 : Int32)).toUInt32.toUInt16.toUInt32.toInt32))] [(.ref b2), (.ref b1), (.ref b1)])) rfl (by rw [hml]; rfl) (Steps.refl _) (a := b1) (argsL := [(.ref b2)]) (rest := [(.ref b1)]) (lenOf pd_7_2_0 rfl) rfl (by show 2 * 0 + _ ≤ _; exact Nat.le_of_eq rfl) (hb hby d7_2_83) (fun _ _ => ⟨rfl, e4, (by decide : 2 + 1 ≤ _), (by decide : 6 + 2 ≤ _)⟩)
  dsimp only [Pt.U, Pt.locs, Pt.cells, Pt.slots] at X6 l6 y6 z6 st6 hQ6
  subst l6 y6 z6
  obtain ⟨rfl, N6q, Kc6, Ec6, Cc6, t6, kt6, gt6, zt6, Vq6, Vc6⟩ := hQ6
  have lt_b1_t6 : b1 < t6 := Nat.lt_of_lt_of_le F4_114.lt zt6
  have lt_b2_t6 : b2 < t6 := Nat.lt_of_lt_of_le V4.lt zt6
  have sz_t6 : h0.size ≤ t6 := Nat.le_trans K4.1 zt6
  have F6_137 := F4_114.keep Kc6
  have F6_138 := V4.keep Kc6 (fun q => (Nat.ne_of_gt lt_b1_b2) (List.mem_singleton.mp q))
  have K6 : Keep h0 T6.heap [] := K4.trans Kc6 (fun x hx => by cases List.mem_singleton.mp hx; exact Or.inr sz_b1)
  have Z6 : n0 ≤ T6.heap.size := Nat.le_trans Z4 Kc6.1
  have O6 := O4.keep Kc6 (fun x hx => by cases List.mem_singleton.mp hx; exact ge_b1)
  have N6 := Fr.app N5w N6q
  refine Goes.via (fun t k => st6.trans k) ?_
  show Goes p e below (T6.setTop (mkF m 86 #[.val (.int (2 : Int32)), .val (.int p2), .val (.int ((p2 &&& (255 : Int32)).toUInt32.toUInt16.toUInt32.toInt32)), .val (.int ((((p2.toUInt32 >>> ((8 : Int32) &&& 31).toUInt32).toInt32) &&& (255 : Int32)).toUInt32.toUInt16.toUInt32.toInt32)), .val (.int ((((p2.toUInt32 >>> ((16 : Int32) &&& 31).toUInt32).toInt32) &&& (255 : Int32)).toUInt32.toUInt16.toUInt32.toInt32))] [(.ref b1)])) _
  obtain ⟨fs, hr, hrun, hended, hW, hsame⟩ := X6.leave (v := some (.ref b1)) (fun h => by rw [Bd.returns] at h; cases h)
  refine ⟨_, _, ?_, hrun, hended, _, _, rfl, ?_, ⟨_, rfl⟩, hW, hsame.mono (by decide) (by decide)⟩
  · exact retOut X6 hx (t := (.object "java/lang/String")) Bd.returns rfl (Or.inr (Or.inr (Or.inr (Or.inr ⟨rfl, rfl, rfl⟩)))) (hb hby d7_2_86) hr
  · exact ⟨b1, t6, _, _, rfl, N6, K6, F6_137, Cc6, Vq6, Vc6⟩
theorem d7_3_0 : decode method_3_code 0 = .ok (.iload_n 1, 1) := by decide +kernel
theorem d7_3_1 : decode method_3_code 1 = .ok (.sipush 255, 3) := by decide +kernel
theorem d7_3_4 : decode method_3_code 4 = .ok (.iand, 1) := by decide +kernel
theorem d7_3_5 : decode method_3_code 5 = .ok (.i2c, 1) := by decide +kernel
theorem d7_3_6 : decode method_3_code 6 = .ok (.istore_n 2, 1) := by decide +kernel
theorem d7_3_7 : decode method_3_code 7 = .ok (.iload_n 1, 1) := by decide +kernel
theorem d7_3_8 : decode method_3_code 8 = .ok (.bipush 8, 2) := by decide +kernel
theorem d7_3_10 : decode method_3_code 10 = .ok (.iushr, 1) := by decide +kernel
theorem d7_3_11 : decode method_3_code 11 = .ok (.sipush 255, 3) := by decide +kernel
theorem d7_3_14 : decode method_3_code 14 = .ok (.iand, 1) := by decide +kernel
theorem d7_3_15 : decode method_3_code 15 = .ok (.i2c, 1) := by decide +kernel
theorem d7_3_16 : decode method_3_code 16 = .ok (.istore_n 3, 1) := by decide +kernel
theorem d7_3_17 : decode method_3_code 17 = .ok (.iload_n 1, 1) := by decide +kernel
theorem d7_3_18 : decode method_3_code 18 = .ok (.bipush 16, 2) := by decide +kernel
theorem d7_3_20 : decode method_3_code 20 = .ok (.iushr, 1) := by decide +kernel
theorem d7_3_21 : decode method_3_code 21 = .ok (.sipush 255, 3) := by decide +kernel
theorem d7_3_24 : decode method_3_code 24 = .ok (.iand, 1) := by decide +kernel
theorem d7_3_25 : decode method_3_code 25 = .ok (.i2c, 1) := by decide +kernel
theorem d7_3_26 : decode method_3_code 26 = .ok (.istore 4, 2) := by decide +kernel
theorem d7_3_28 : decode method_3_code 28 = .ok (.iload_n 0, 1) := by decide +kernel
theorem d7_3_29 : decode method_3_code 29 = .ok (.ifCond .ne 14, 3) := by decide +kernel
theorem d7_3_43 : decode method_3_code 43 = .ok (.iload_n 0, 1) := by decide +kernel
theorem d7_3_44 : decode method_3_code 44 = .ok (.iconst 1, 1) := by decide +kernel
theorem d7_3_45 : decode method_3_code 45 = .ok (.if_icmp .ne 18, 3) := by decide +kernel
theorem d7_3_63 : decode method_3_code 63 = .ok (.iload_n 0, 1) := by decide +kernel
theorem d7_3_64 : decode method_3_code 64 = .ok (.iconst 2, 1) := by decide +kernel
theorem d7_3_65 : decode method_3_code 65 = .ok (.if_icmp .ne 22, 3) := by decide +kernel
theorem d7_3_87 : decode method_3_code 87 = .ok (.new 7, 3) := by decide +kernel
theorem d7_3_90 : decode method_3_code 90 = .ok (.dup, 1) := by decide +kernel
theorem d7_3_91 : decode method_3_code 91 = .ok (.iconst 3, 1) := by decide +kernel
theorem d7_3_92 : decode method_3_code 92 = .ok (.newarray .char, 2) := by decide +kernel
theorem d7_3_94 : decode method_3_code 94 = .ok (.dup, 1) := by decide +kernel
theorem d7_3_95 : decode method_3_code 95 = .ok (.iconst 0, 1) := by decide +kernel
theorem d7_3_96 : decode method_3_code 96 = .ok (.iload_n 2, 1) := by decide +kernel
theorem d7_3_97 : decode method_3_code 97 = .ok (.castore, 1) := by decide +kernel
theorem d7_3_98 : decode method_3_code 98 = .ok (.dup, 1) := by decide +kernel
theorem d7_3_99 : decode method_3_code 99 = .ok (.iconst 1, 1) := by decide +kernel
theorem d7_3_100 : decode method_3_code 100 = .ok (.iload_n 3, 1) := by decide +kernel
theorem d7_3_101 : decode method_3_code 101 = .ok (.castore, 1) := by decide +kernel
theorem d7_3_102 : decode method_3_code 102 = .ok (.dup, 1) := by decide +kernel
theorem d7_3_103 : decode method_3_code 103 = .ok (.iconst 2, 1) := by decide +kernel
theorem d7_3_104 : decode method_3_code 104 = .ok (.iload 4, 2) := by decide +kernel
theorem d7_3_106 : decode method_3_code 106 = .ok (.castore, 1) := by decide +kernel
theorem d7_3_107 : decode method_3_code 107 = .ok (.invokespecial 9, 3) := by decide +kernel
theorem d7_3_110 : decode method_3_code 110 = .ok (.areturn, 1) := by decide +kernel
theorem pn_7_3 : plainName "com/example/beforehand/beforehand/TextPartLengthPinLaw" = true := by first | (simp [plainName, overriddenIn]; done) | decide +kernel
theorem pd_7_3_0 : parseMethodDescriptor "([C)V" = some ⟨[(.array .char)], none⟩ := by decide +kernel
theorem ef_7_3 (m : MethodId) (x1 : Int32) : entryFrame m #[(.int (3 : Int32)), (.int x1)] 5 = mkF m 0 #[.val (.int (3 : Int32)), .val (.int x1), .unset, .unset, .unset] [] := by first | (simp [entryFrame, mkF, argsToLocals, Value.category]; done) | rfl
def Q7_3 (Z : State) (h0 : Heap) (n0 : Nat) (v : Option Value) (h : Heap) (L : List Loc) : Prop := ∃ (r t : Addr) (k : ClassId) (vs : List Value), v = some (.ref r) ∧ Fr n0 L ∧ Keep h0 h [] ∧ Exa Z h r "java/lang/String" ∧ Fld Z h r "java/lang/String" "coder" "B" (.int (0 : Int32)) ∧ Fld Z h r "java/lang/String" "value" "[B" (.ref t) ∧ Arv Z h t k .byte (3 : Int32) vs (.int (0 : Int32))
set_option maxRecDepth 65536 in
set_option maxHeartbeats 40000000 in
theorem rm7_3 (l : Launch) (Z : State) (a0 : Array Value) (hw : ∀ d ∈ tables_1, d.before a0 Z = true) (ws : List Jvm.Cond) (p2 : Int32) (w0 : Int32) (h0 : Heap) (n0 : Nat) (Z0 : n0 ≤ h0.size) (O0 : Old Z n0 h0) (St : own_St Z w0) :
    MetFree l (⟨"com/example/beforehand/beforehand/TextPartLengthPinLaw", "makeAfter", "(II)Ljava/lang/String;"⟩ : MethodName) (head1 (Jvm.Cond.code (⟨"com/example/beforehand/beforehand/TextPartLengthPinLaw", "makeAfter", "(II)Ljava/lang/String;"⟩ : MethodName) method_3_code 5 (some (.object "java/lang/String")) :: ws) ({ frames := 4, cells := 3, slots := 10, locals := 66 } : Room)) (fun a U => a = #[(.int (3 : Int32)), (.int p2)] ∧ Z.Warmed39 U.vm ∧ U.heap = h0) (fun _ _ _ _ _ => True) (fun _ U o U' => ∃ v L, o = .returned v ∧ Q7_3 Z  h0 n0 v U'.heap L ∧ FrameEnd U o U' L ({ frames := 4, cells := 3, slots := 10, locals := 66 } : Room).cells ({ frames := 4, cells := 3, slots := 10, locals := 66 } : Room).slots) := by
  refine MetFree.of_bodySF (plainFor_of_name pn_7_3) hisR ?_
  intro p e s m args below meth c s₁ Bd hml0 hP hK
  obtain ⟨rfl, hZ, hh⟩ := hP
  have hx := Bd.exec
  have hby := Bd.bytes
  have hml : c.maxLocals = 5 := hml0
  have hown : s.vm.findClass "com/example/beforehand/beforehand/TextPartLengthPinLaw" = some m.cls := findClass_of_methodNamed Bd.named
  have hnm := (name_of_methodNamed Bd.named Bd.method).1
  have X0 : Stand p l e ({ frames := 4, cells := 3, slots := 10, locals := 66 } : Room) s m #[(.int (3 : Int32)), (.int p2)] below meth c s₁ [] 0 0 := Stand.of_body Bd
  have e0 : s₁.heap = h0 := by rw [← hh, Bd.state]; rfl
  have N0 := Fr.nil n0
  refine Goes.via (next := s₁.setTop (mkF m 0 #[.val (.int (3 : Int32)), .val (.int p2), .unset, .unset, .unset] [])) (fun t k => castTop (ef_7_3 m p2) k) ?_
  refine Goes.via (fun t k => XS.iloadN X0.here hx rfl (hb hby d7_3_0) rfl k) ?_
  show Goes p e below (s₁.setTop (mkF m 1 #[.val (.int (3 : Int32)), .val (.int p2), .unset, .unset, .unset] [(.int p2)])) _
  refine Goes.via (fun t k => XS.sipush X0.here hx rfl (hb hby d7_3_1) k) ?_
  show Goes p e below (s₁.setTop (mkF m 4 #[.val (.int (3 : Int32)), .val (.int p2), .unset, .unset, .unset] [(.int (255 : Int32)), (.int p2)])) _
  refine Goes.via (fun t k => XS.iand X0.here hx rfl (hb hby d7_3_4) rfl k) ?_
  show Goes p e below (s₁.setTop (mkF m 5 #[.val (.int (3 : Int32)), .val (.int p2), .unset, .unset, .unset] [(.int (p2 &&& (255 : Int32)))])) _
  refine Goes.via (fun t k => XS.i2c X0.here hx rfl (hb hby d7_3_5) rfl k) ?_
  show Goes p e below (s₁.setTop (mkF m 6 #[.val (.int (3 : Int32)), .val (.int p2), .unset, .unset, .unset] [(.int ((p2 &&& (255 : Int32)).toUInt32.toUInt16.toUInt32.toInt32))])) _
  refine Goes.via (fun t k => XS.istoreN X0.here hx rfl (hb hby d7_3_6) rfl (l' := #[.val (.int (3 : Int32)), .val (.int p2), .val (.int ((p2 &&& (255 : Int32)).toUInt32.toUInt16.toUInt32.toInt32)), .unset, .unset]) rfl k) ?_
  show Goes p e below (s₁.setTop (mkF m 7 #[.val (.int (3 : Int32)), .val (.int p2), .val (.int ((p2 &&& (255 : Int32)).toUInt32.toUInt16.toUInt32.toInt32)), .unset, .unset] [])) _
  refine Goes.via (fun t k => XS.iloadN X0.here hx rfl (hb hby d7_3_7) rfl k) ?_
  show Goes p e below (s₁.setTop (mkF m 8 #[.val (.int (3 : Int32)), .val (.int p2), .val (.int ((p2 &&& (255 : Int32)).toUInt32.toUInt16.toUInt32.toInt32)), .unset, .unset] [(.int p2)])) _
  refine Goes.via (fun t k => XS.bipush X0.here hx rfl (hb hby d7_3_8) k) ?_
  show Goes p e below (s₁.setTop (mkF m 10 #[.val (.int (3 : Int32)), .val (.int p2), .val (.int ((p2 &&& (255 : Int32)).toUInt32.toUInt16.toUInt32.toInt32)), .unset, .unset] [(.int (8 : Int32)), (.int p2)])) _
  refine Goes.via (fun t k => XS.iushr X0.here hx rfl (hb hby d7_3_10) rfl k) ?_
  show Goes p e below (s₁.setTop (mkF m 11 #[.val (.int (3 : Int32)), .val (.int p2), .val (.int ((p2 &&& (255 : Int32)).toUInt32.toUInt16.toUInt32.toInt32)), .unset, .unset] [(.int ((p2.toUInt32 >>> ((8 : Int32) &&& 31).toUInt32).toInt32))])) _
  refine Goes.via (fun t k => XS.sipush X0.here hx rfl (hb hby d7_3_11) k) ?_
  show Goes p e below (s₁.setTop (mkF m 14 #[.val (.int (3 : Int32)), .val (.int p2), .val (.int ((p2 &&& (255 : Int32)).toUInt32.toUInt16.toUInt32.toInt32)), .unset, .unset] [(.int (255 : Int32)), (.int ((p2.toUInt32 >>> ((8 : Int32) &&& 31).toUInt32).toInt32))])) _
  refine Goes.via (fun t k => XS.iand X0.here hx rfl (hb hby d7_3_14) rfl k) ?_
  show Goes p e below (s₁.setTop (mkF m 15 #[.val (.int (3 : Int32)), .val (.int p2), .val (.int ((p2 &&& (255 : Int32)).toUInt32.toUInt16.toUInt32.toInt32)), .unset, .unset] [(.int (((p2.toUInt32 >>> ((8 : Int32) &&& 31).toUInt32).toInt32) &&& (255 : Int32)))])) _
  refine Goes.via (fun t k => XS.i2c X0.here hx rfl (hb hby d7_3_15) rfl k) ?_
  show Goes p e below (s₁.setTop (mkF m 16 #[.val (.int (3 : Int32)), .val (.int p2), .val (.int ((p2 &&& (255 : Int32)).toUInt32.toUInt16.toUInt32.toInt32)), .unset, .unset] [(.int ((((p2.toUInt32 >>> ((8 : Int32) &&& 31).toUInt32).toInt32) &&& (255 : Int32)).toUInt32.toUInt16.toUInt32.toInt32))])) _
  refine Goes.via (fun t k => XS.istoreN X0.here hx rfl (hb hby d7_3_16) rfl (l' := #[.val (.int (3 : Int32)), .val (.int p2), .val (.int ((p2 &&& (255 : Int32)).toUInt32.toUInt16.toUInt32.toInt32)), .val (.int ((((p2.toUInt32 >>> ((8 : Int32) &&& 31).toUInt32).toInt32) &&& (255 : Int32)).toUInt32.toUInt16.toUInt32.toInt32)), .unset]) rfl k) ?_
  show Goes p e below (s₁.setTop (mkF m 17 #[.val (.int (3 : Int32)), .val (.int p2), .val (.int ((p2 &&& (255 : Int32)).toUInt32.toUInt16.toUInt32.toInt32)), .val (.int ((((p2.toUInt32 >>> ((8 : Int32) &&& 31).toUInt32).toInt32) &&& (255 : Int32)).toUInt32.toUInt16.toUInt32.toInt32)), .unset] [])) _
  refine Goes.via (fun t k => XS.iloadN X0.here hx rfl (hb hby d7_3_17) rfl k) ?_
  show Goes p e below (s₁.setTop (mkF m 18 #[.val (.int (3 : Int32)), .val (.int p2), .val (.int ((p2 &&& (255 : Int32)).toUInt32.toUInt16.toUInt32.toInt32)), .val (.int ((((p2.toUInt32 >>> ((8 : Int32) &&& 31).toUInt32).toInt32) &&& (255 : Int32)).toUInt32.toUInt16.toUInt32.toInt32)), .unset] [(.int p2)])) _
  refine Goes.via (fun t k => XS.bipush X0.here hx rfl (hb hby d7_3_18) k) ?_
  show Goes p e below (s₁.setTop (mkF m 20 #[.val (.int (3 : Int32)), .val (.int p2), .val (.int ((p2 &&& (255 : Int32)).toUInt32.toUInt16.toUInt32.toInt32)), .val (.int ((((p2.toUInt32 >>> ((8 : Int32) &&& 31).toUInt32).toInt32) &&& (255 : Int32)).toUInt32.toUInt16.toUInt32.toInt32)), .unset] [(.int (16 : Int32)), (.int p2)])) _
  refine Goes.via (fun t k => XS.iushr X0.here hx rfl (hb hby d7_3_20) rfl k) ?_
  show Goes p e below (s₁.setTop (mkF m 21 #[.val (.int (3 : Int32)), .val (.int p2), .val (.int ((p2 &&& (255 : Int32)).toUInt32.toUInt16.toUInt32.toInt32)), .val (.int ((((p2.toUInt32 >>> ((8 : Int32) &&& 31).toUInt32).toInt32) &&& (255 : Int32)).toUInt32.toUInt16.toUInt32.toInt32)), .unset] [(.int ((p2.toUInt32 >>> ((16 : Int32) &&& 31).toUInt32).toInt32))])) _
  refine Goes.via (fun t k => XS.sipush X0.here hx rfl (hb hby d7_3_21) k) ?_
  show Goes p e below (s₁.setTop (mkF m 24 #[.val (.int (3 : Int32)), .val (.int p2), .val (.int ((p2 &&& (255 : Int32)).toUInt32.toUInt16.toUInt32.toInt32)), .val (.int ((((p2.toUInt32 >>> ((8 : Int32) &&& 31).toUInt32).toInt32) &&& (255 : Int32)).toUInt32.toUInt16.toUInt32.toInt32)), .unset] [(.int (255 : Int32)), (.int ((p2.toUInt32 >>> ((16 : Int32) &&& 31).toUInt32).toInt32))])) _
  refine Goes.via (fun t k => XS.iand X0.here hx rfl (hb hby d7_3_24) rfl k) ?_
  show Goes p e below (s₁.setTop (mkF m 25 #[.val (.int (3 : Int32)), .val (.int p2), .val (.int ((p2 &&& (255 : Int32)).toUInt32.toUInt16.toUInt32.toInt32)), .val (.int ((((p2.toUInt32 >>> ((8 : Int32) &&& 31).toUInt32).toInt32) &&& (255 : Int32)).toUInt32.toUInt16.toUInt32.toInt32)), .unset] [(.int (((p2.toUInt32 >>> ((16 : Int32) &&& 31).toUInt32).toInt32) &&& (255 : Int32)))])) _
  refine Goes.via (fun t k => XS.i2c X0.here hx rfl (hb hby d7_3_25) rfl k) ?_
  show Goes p e below (s₁.setTop (mkF m 26 #[.val (.int (3 : Int32)), .val (.int p2), .val (.int ((p2 &&& (255 : Int32)).toUInt32.toUInt16.toUInt32.toInt32)), .val (.int ((((p2.toUInt32 >>> ((8 : Int32) &&& 31).toUInt32).toInt32) &&& (255 : Int32)).toUInt32.toUInt16.toUInt32.toInt32)), .unset] [(.int ((((p2.toUInt32 >>> ((16 : Int32) &&& 31).toUInt32).toInt32) &&& (255 : Int32)).toUInt32.toUInt16.toUInt32.toInt32))])) _
  refine Goes.via (fun t k => XS.istore X0.here hx rfl (hb hby d7_3_26) rfl (l' := #[.val (.int (3 : Int32)), .val (.int p2), .val (.int ((p2 &&& (255 : Int32)).toUInt32.toUInt16.toUInt32.toInt32)), .val (.int ((((p2.toUInt32 >>> ((8 : Int32) &&& 31).toUInt32).toInt32) &&& (255 : Int32)).toUInt32.toUInt16.toUInt32.toInt32)), .val (.int ((((p2.toUInt32 >>> ((16 : Int32) &&& 31).toUInt32).toInt32) &&& (255 : Int32)).toUInt32.toUInt16.toUInt32.toInt32))]) rfl k) ?_
  show Goes p e below (s₁.setTop (mkF m 28 #[.val (.int (3 : Int32)), .val (.int p2), .val (.int ((p2 &&& (255 : Int32)).toUInt32.toUInt16.toUInt32.toInt32)), .val (.int ((((p2.toUInt32 >>> ((8 : Int32) &&& 31).toUInt32).toInt32) &&& (255 : Int32)).toUInt32.toUInt16.toUInt32.toInt32)), .val (.int ((((p2.toUInt32 >>> ((16 : Int32) &&& 31).toUInt32).toInt32) &&& (255 : Int32)).toUInt32.toUInt16.toUInt32.toInt32))] [])) _
  refine Goes.via (fun t k => XS.iloadN X0.here hx rfl (hb hby d7_3_28) rfl k) ?_
  show Goes p e below (s₁.setTop (mkF m 29 #[.val (.int (3 : Int32)), .val (.int p2), .val (.int ((p2 &&& (255 : Int32)).toUInt32.toUInt16.toUInt32.toInt32)), .val (.int ((((p2.toUInt32 >>> ((8 : Int32) &&& 31).toUInt32).toInt32) &&& (255 : Int32)).toUInt32.toUInt16.toUInt32.toInt32)), .val (.int ((((p2.toUInt32 >>> ((16 : Int32) &&& 31).toUInt32).toInt32) &&& (255 : Int32)).toUInt32.toUInt16.toUInt32.toInt32))] [(.int (3 : Int32))])) _
  refine Goes.via (fun t k => XS.ifYes X0.here hx rfl (pc0 := 29) (pc' := 43) rfl (hb hby d7_3_29) rfl ((if0 _ _).trans (feq (show ¬ ((3 : Int32) = (0 : Int32)) from (by decide))).2) (by decide) (by decide) k) ?_
  show Goes p e below (s₁.setTop (mkF m 43 #[.val (.int (3 : Int32)), .val (.int p2), .val (.int ((p2 &&& (255 : Int32)).toUInt32.toUInt16.toUInt32.toInt32)), .val (.int ((((p2.toUInt32 >>> ((8 : Int32) &&& 31).toUInt32).toInt32) &&& (255 : Int32)).toUInt32.toUInt16.toUInt32.toInt32)), .val (.int ((((p2.toUInt32 >>> ((16 : Int32) &&& 31).toUInt32).toInt32) &&& (255 : Int32)).toUInt32.toUInt16.toUInt32.toInt32))] [])) _
  refine Goes.via (fun t k => XS.iloadN X0.here hx rfl (hb hby d7_3_43) rfl k) ?_
  show Goes p e below (s₁.setTop (mkF m 44 #[.val (.int (3 : Int32)), .val (.int p2), .val (.int ((p2 &&& (255 : Int32)).toUInt32.toUInt16.toUInt32.toInt32)), .val (.int ((((p2.toUInt32 >>> ((8 : Int32) &&& 31).toUInt32).toInt32) &&& (255 : Int32)).toUInt32.toUInt16.toUInt32.toInt32)), .val (.int ((((p2.toUInt32 >>> ((16 : Int32) &&& 31).toUInt32).toInt32) &&& (255 : Int32)).toUInt32.toUInt16.toUInt32.toInt32))] [(.int (3 : Int32))])) _
  refine Goes.via (fun t k => XS.iconst X0.here hx rfl (hb hby d7_3_44) k) ?_
  show Goes p e below (s₁.setTop (mkF m 45 #[.val (.int (3 : Int32)), .val (.int p2), .val (.int ((p2 &&& (255 : Int32)).toUInt32.toUInt16.toUInt32.toInt32)), .val (.int ((((p2.toUInt32 >>> ((8 : Int32) &&& 31).toUInt32).toInt32) &&& (255 : Int32)).toUInt32.toUInt16.toUInt32.toInt32)), .val (.int ((((p2.toUInt32 >>> ((16 : Int32) &&& 31).toUInt32).toInt32) &&& (255 : Int32)).toUInt32.toUInt16.toUInt32.toInt32))] [(.int (1 : Int32)), (.int (3 : Int32))])) _
  refine Goes.via (fun t k => XS.icmpYes X0.here hx rfl (pc0 := 45) (pc' := 63) rfl (hb hby d7_3_45) rfl (feq (show ¬ ((3 : Int32) = (1 : Int32)) from (by decide))).2 (by decide) (by decide) k) ?_
  show Goes p e below (s₁.setTop (mkF m 63 #[.val (.int (3 : Int32)), .val (.int p2), .val (.int ((p2 &&& (255 : Int32)).toUInt32.toUInt16.toUInt32.toInt32)), .val (.int ((((p2.toUInt32 >>> ((8 : Int32) &&& 31).toUInt32).toInt32) &&& (255 : Int32)).toUInt32.toUInt16.toUInt32.toInt32)), .val (.int ((((p2.toUInt32 >>> ((16 : Int32) &&& 31).toUInt32).toInt32) &&& (255 : Int32)).toUInt32.toUInt16.toUInt32.toInt32))] [])) _
  refine Goes.via (fun t k => XS.iloadN X0.here hx rfl (hb hby d7_3_63) rfl k) ?_
  show Goes p e below (s₁.setTop (mkF m 64 #[.val (.int (3 : Int32)), .val (.int p2), .val (.int ((p2 &&& (255 : Int32)).toUInt32.toUInt16.toUInt32.toInt32)), .val (.int ((((p2.toUInt32 >>> ((8 : Int32) &&& 31).toUInt32).toInt32) &&& (255 : Int32)).toUInt32.toUInt16.toUInt32.toInt32)), .val (.int ((((p2.toUInt32 >>> ((16 : Int32) &&& 31).toUInt32).toInt32) &&& (255 : Int32)).toUInt32.toUInt16.toUInt32.toInt32))] [(.int (3 : Int32))])) _
  refine Goes.via (fun t k => XS.iconst X0.here hx rfl (hb hby d7_3_64) k) ?_
  show Goes p e below (s₁.setTop (mkF m 65 #[.val (.int (3 : Int32)), .val (.int p2), .val (.int ((p2 &&& (255 : Int32)).toUInt32.toUInt16.toUInt32.toInt32)), .val (.int ((((p2.toUInt32 >>> ((8 : Int32) &&& 31).toUInt32).toInt32) &&& (255 : Int32)).toUInt32.toUInt16.toUInt32.toInt32)), .val (.int ((((p2.toUInt32 >>> ((16 : Int32) &&& 31).toUInt32).toInt32) &&& (255 : Int32)).toUInt32.toUInt16.toUInt32.toInt32))] [(.int (2 : Int32)), (.int (3 : Int32))])) _
  refine Goes.via (fun t k => XS.icmpYes X0.here hx rfl (pc0 := 65) (pc' := 87) rfl (hb hby d7_3_65) rfl (feq (show ¬ ((3 : Int32) = (2 : Int32)) from (by decide))).2 (by decide) (by decide) k) ?_
  show Goes p e below (s₁.setTop (mkF m 87 #[.val (.int (3 : Int32)), .val (.int p2), .val (.int ((p2 &&& (255 : Int32)).toUInt32.toUInt16.toUInt32.toInt32)), .val (.int ((((p2.toUInt32 >>> ((8 : Int32) &&& 31).toUInt32).toInt32) &&& (255 : Int32)).toUInt32.toUInt16.toUInt32.toInt32)), .val (.int ((((p2.toUInt32 >>> ((16 : Int32) &&& 31).toUInt32).toInt32) &&& (255 : Int32)).toUInt32.toUInt16.toUInt32.toInt32))] [])) _
  obtain ⟨T1, h1, X1, e1, E1, A1, D1, -, st1⟩ := newO X0 hx hZ hown (hw _ (List.mem_of_getElem? (i := 1) rfl)) (hw _ (List.mem_of_getElem? (i := 2) rfl)) (hw _ (List.mem_of_getElem? (i := 3) rfl)) e0 (g := (mkF m 87 #[.val (.int (3 : Int32)), .val (.int p2), .val (.int ((p2 &&& (255 : Int32)).toUInt32.toUInt16.toUInt32.toInt32)), .val (.int ((((p2.toUInt32 >>> ((8 : Int32) &&& 31).toUInt32).toInt32) &&& (255 : Int32)).toUInt32.toUInt16.toUInt32.toInt32)), .val (.int ((((p2.toUInt32 >>> ((16 : Int32) &&& 31).toUInt32).toInt32) &&& (255 : Int32)).toUInt32.toUInt16.toUInt32.toInt32))] [])) rfl (hb hby d7_3_87) (by decide) (by decide)
  obtain ⟨b1, g1⟩ : ∃ z, z = h0.size := ⟨_, rfl⟩
  rw [← g1] at A1 D1 st1
  have ge_b1 : n0 ≤ b1 := Nat.le_trans Z0 (Nat.le_of_eq g1.symm)
  have sz_b1 : h0.size ≤ b1 := Nat.le_trans (Keep.refl h0 []).1 (Nat.le_of_eq g1.symm)
  have K1 : Keep h0 h1 [] := (Keep.refl h0 []).ext E1
  have Z1 : n0 ≤ h1.size := Nat.le_trans Z0 E1.1
  have O1 := O0.ext E1
  have F1_coder : Fld Z h1 b1 "java/lang/String" "coder" "B" (.int (0 : Int32)) := D1 (Or.inr (hw _ (List.mem_of_getElem? (i := 27) rfl))) (ty := .byte) (by decide)
  have F1_value : Fld Z h1 b1 "java/lang/String" "value" "[B" .null := D1 (Or.inr (hw _ (List.mem_of_getElem? (i := 29) rfl))) (ty := (.array .byte)) (by decide)
  refine Goes.via st1 ?_
  show Goes p e below (T1.setTop (mkF m 90 #[.val (.int (3 : Int32)), .val (.int p2), .val (.int ((p2 &&& (255 : Int32)).toUInt32.toUInt16.toUInt32.toInt32)), .val (.int ((((p2.toUInt32 >>> ((8 : Int32) &&& 31).toUInt32).toInt32) &&& (255 : Int32)).toUInt32.toUInt16.toUInt32.toInt32)), .val (.int ((((p2.toUInt32 >>> ((16 : Int32) &&& 31).toUInt32).toInt32) &&& (255 : Int32)).toUInt32.toUInt16.toUInt32.toInt32))] [(.ref b1)])) _
  refine Goes.via (fun t k => XS.dup X1.here hx rfl (hb hby d7_3_90) rfl rfl k) ?_
  show Goes p e below (T1.setTop (mkF m 91 #[.val (.int (3 : Int32)), .val (.int p2), .val (.int ((p2 &&& (255 : Int32)).toUInt32.toUInt16.toUInt32.toInt32)), .val (.int ((((p2.toUInt32 >>> ((8 : Int32) &&& 31).toUInt32).toInt32) &&& (255 : Int32)).toUInt32.toUInt16.toUInt32.toInt32)), .val (.int ((((p2.toUInt32 >>> ((16 : Int32) &&& 31).toUInt32).toInt32) &&& (255 : Int32)).toUInt32.toUInt16.toUInt32.toInt32))] [(.ref b1), (.ref b1)])) _
  refine Goes.via (fun t k => XS.iconst X1.here hx rfl (hb hby d7_3_91) k) ?_
  show Goes p e below (T1.setTop (mkF m 92 #[.val (.int (3 : Int32)), .val (.int p2), .val (.int ((p2 &&& (255 : Int32)).toUInt32.toUInt16.toUInt32.toInt32)), .val (.int ((((p2.toUInt32 >>> ((8 : Int32) &&& 31).toUInt32).toInt32) &&& (255 : Int32)).toUInt32.toUInt16.toUInt32.toInt32)), .val (.int ((((p2.toUInt32 >>> ((16 : Int32) &&& 31).toUInt32).toInt32) &&& (255 : Int32)).toUInt32.toUInt16.toUInt32.toInt32))] [(.int (3 : Int32)), (.ref b1), (.ref b1)])) _
  obtain ⟨T2, h2, ka2, X2, e2, E2, A2, st2⟩ := newP X1 hx hZ (hw _ (List.mem_of_getElem? (i := 0) rfl)) e1 (g := (mkF m 92 #[.val (.int (3 : Int32)), .val (.int p2), .val (.int ((p2 &&& (255 : Int32)).toUInt32.toUInt16.toUInt32.toInt32)), .val (.int ((((p2.toUInt32 >>> ((8 : Int32) &&& 31).toUInt32).toInt32) &&& (255 : Int32)).toUInt32.toUInt16.toUInt32.toInt32)), .val (.int ((((p2.toUInt32 >>> ((16 : Int32) &&& 31).toUInt32).toInt32) &&& (255 : Int32)).toUInt32.toUInt16.toUInt32.toInt32))] [(.int (3 : Int32)), (.ref b1), (.ref b1)])) rfl (hb hby d7_3_92) rfl (by decide) (cap := 3) (by decide) (by decide) (by decide) (by decide)
  obtain ⟨b2, g2⟩ : ∃ z, z = h1.size := ⟨_, rfl⟩
  rw [← g2] at A2 st2
  have lt_b1_b2 : b1 < b2 := Nat.lt_of_lt_of_le A1.lt (Nat.le_of_eq g2.symm)
  have ge_b2 : n0 ≤ b2 := Nat.le_trans Z1 (Nat.le_of_eq g2.symm)
  have sz_b2 : h0.size ≤ b2 := Nat.le_trans K1.1 (Nat.le_of_eq g2.symm)
  have F2_76 := A1.ext E2
  have F2_77 := F1_coder.ext E2
  have F2_78 := F1_value.ext E2
  have K2 : Keep h0 h2 [] := K1.ext E2
  have Z2 : n0 ≤ h2.size := Nat.le_trans Z1 E2.1
  have O2 := O1.ext E2
  have V2 : Arv Z h2 b2 ka2 .char (3 : Int32) [(.int (0 : Int32)), (.int (0 : Int32)), (.int (0 : Int32))] (.int (0 : Int32)) := (Arv.new A2 (by decide)).pad (pad_rep [] (.int (0 : Int32)) 3)
  refine Goes.via st2 ?_
  show Goes p e below (T2.setTop (mkF m 94 #[.val (.int (3 : Int32)), .val (.int p2), .val (.int ((p2 &&& (255 : Int32)).toUInt32.toUInt16.toUInt32.toInt32)), .val (.int ((((p2.toUInt32 >>> ((8 : Int32) &&& 31).toUInt32).toInt32) &&& (255 : Int32)).toUInt32.toUInt16.toUInt32.toInt32)), .val (.int ((((p2.toUInt32 >>> ((16 : Int32) &&& 31).toUInt32).toInt32) &&& (255 : Int32)).toUInt32.toUInt16.toUInt32.toInt32))] [(.ref b2), (.ref b1), (.ref b1)])) _
  refine Goes.via (fun t k => XS.dup X2.here hx rfl (hb hby d7_3_94) rfl rfl k) ?_
  show Goes p e below (T2.setTop (mkF m 95 #[.val (.int (3 : Int32)), .val (.int p2), .val (.int ((p2 &&& (255 : Int32)).toUInt32.toUInt16.toUInt32.toInt32)), .val (.int ((((p2.toUInt32 >>> ((8 : Int32) &&& 31).toUInt32).toInt32) &&& (255 : Int32)).toUInt32.toUInt16.toUInt32.toInt32)), .val (.int ((((p2.toUInt32 >>> ((16 : Int32) &&& 31).toUInt32).toInt32) &&& (255 : Int32)).toUInt32.toUInt16.toUInt32.toInt32))] [(.ref b2), (.ref b2), (.ref b1), (.ref b1)])) _
  refine Goes.via (fun t k => XS.iconst X2.here hx rfl (hb hby d7_3_95) k) ?_
  show Goes p e below (T2.setTop (mkF m 96 #[.val (.int (3 : Int32)), .val (.int p2), .val (.int ((p2 &&& (255 : Int32)).toUInt32.toUInt16.toUInt32.toInt32)), .val (.int ((((p2.toUInt32 >>> ((8 : Int32) &&& 31).toUInt32).toInt32) &&& (255 : Int32)).toUInt32.toUInt16.toUInt32.toInt32)), .val (.int ((((p2.toUInt32 >>> ((16 : Int32) &&& 31).toUInt32).toInt32) &&& (255 : Int32)).toUInt32.toUInt16.toUInt32.toInt32))] [(.int (0 : Int32)), (.ref b2), (.ref b2), (.ref b1), (.ref b1)])) _
  refine Goes.via (fun t k => XS.iloadN X2.here hx rfl (hb hby d7_3_96) rfl k) ?_
  show Goes p e below (T2.setTop (mkF m 97 #[.val (.int (3 : Int32)), .val (.int p2), .val (.int ((p2 &&& (255 : Int32)).toUInt32.toUInt16.toUInt32.toInt32)), .val (.int ((((p2.toUInt32 >>> ((8 : Int32) &&& 31).toUInt32).toInt32) &&& (255 : Int32)).toUInt32.toUInt16.toUInt32.toInt32)), .val (.int ((((p2.toUInt32 >>> ((16 : Int32) &&& 31).toUInt32).toInt32) &&& (255 : Int32)).toUInt32.toUInt16.toUInt32.toInt32))] [(.int ((p2 &&& (255 : Int32)).toUInt32.toUInt16.toUInt32.toInt32)), (.int (0 : Int32)), (.ref b2), (.ref b2), (.ref b1), (.ref b1)])) _
  obtain ⟨cl3, Ar3, qa3, Sa3, Na3, Ha3, Ga3⟩ := V2
  have hin3 : ¬ ((0 : Int32) < 0 ∨ cl3.slots.size ≤ ((0 : Int32)).toNatClampNeg) := inb_of Sa3 ⟨by decide, by decide⟩
  obtain ⟨T3, h3, X3, e3, W3, st3⟩ := stC X2 hx hZ e2 Ar3 (j := (0 : Int32)) hin3 (g := (mkF m 97 #[.val (.int (3 : Int32)), .val (.int p2), .val (.int ((p2 &&& (255 : Int32)).toUInt32.toUInt16.toUInt32.toInt32)), .val (.int ((((p2.toUInt32 >>> ((8 : Int32) &&& 31).toUInt32).toInt32) &&& (255 : Int32)).toUInt32.toUInt16.toUInt32.toInt32)), .val (.int ((((p2.toUInt32 >>> ((16 : Int32) &&& 31).toUInt32).toInt32) &&& (255 : Int32)).toUInt32.toUInt16.toUInt32.toInt32))] [(.int ((p2 &&& (255 : Int32)).toUInt32.toUInt16.toUInt32.toInt32)), (.int (0 : Int32)), (.ref b2), (.ref b2), (.ref b1), (.ref b1)])) rfl rfl (hb hby d7_3_97)
  have V3 : Arv Z h3 b2 ka2 .char (3 : Int32) [(.int (nar .char ((p2 &&& (255 : Int32)).toUInt32.toUInt16.toUInt32.toInt32))), (.int (0 : Int32)), (.int (0 : Int32))] (.int (0 : Int32)) := Arv.set Ar3 qa3 Sa3 Na3 Ha3 Ga3 (fits_nar_char _) W3 0 rfl (Nat.le_of_ble_eq_true rfl)
  have F3_95 := F2_76.wr W3
  have F3_96 := F2_77.other W3 (Or.inl (Nat.ne_of_lt lt_b1_b2))
  have F3_97 := F2_78.other W3 (Or.inl (Nat.ne_of_lt lt_b1_b2))
  have K3 : Keep h0 h3 [] := K2.wr W3 (Or.inr sz_b2)
  have Z3 : n0 ≤ h3.size := Nat.le_trans Z2 (Keep.of_wr W3).1
  have N3 := Fr.snoc X3 N0 ge_b2
  have O3 := O2.wr W3 ge_b2
  refine Goes.via st3 ?_
  show Goes p e below (T3.setTop (mkF m 98 #[.val (.int (3 : Int32)), .val (.int p2), .val (.int ((p2 &&& (255 : Int32)).toUInt32.toUInt16.toUInt32.toInt32)), .val (.int ((((p2.toUInt32 >>> ((8 : Int32) &&& 31).toUInt32).toInt32) &&& (255 : Int32)).toUInt32.toUInt16.toUInt32.toInt32)), .val (.int ((((p2.toUInt32 >>> ((16 : Int32) &&& 31).toUInt32).toInt32) &&& (255 : Int32)).toUInt32.toUInt16.toUInt32.toInt32))] [(.ref b2), (.ref b1), (.ref b1)])) _
  refine Goes.via (fun t k => XS.dup X3.here hx rfl (hb hby d7_3_98) rfl rfl k) ?_
  show Goes p e below (T3.setTop (mkF m 99 #[.val (.int (3 : Int32)), .val (.int p2), .val (.int ((p2 &&& (255 : Int32)).toUInt32.toUInt16.toUInt32.toInt32)), .val (.int ((((p2.toUInt32 >>> ((8 : Int32) &&& 31).toUInt32).toInt32) &&& (255 : Int32)).toUInt32.toUInt16.toUInt32.toInt32)), .val (.int ((((p2.toUInt32 >>> ((16 : Int32) &&& 31).toUInt32).toInt32) &&& (255 : Int32)).toUInt32.toUInt16.toUInt32.toInt32))] [(.ref b2), (.ref b2), (.ref b1), (.ref b1)])) _
  refine Goes.via (fun t k => XS.iconst X3.here hx rfl (hb hby d7_3_99) k) ?_
  show Goes p e below (T3.setTop (mkF m 100 #[.val (.int (3 : Int32)), .val (.int p2), .val (.int ((p2 &&& (255 : Int32)).toUInt32.toUInt16.toUInt32.toInt32)), .val (.int ((((p2.toUInt32 >>> ((8 : Int32) &&& 31).toUInt32).toInt32) &&& (255 : Int32)).toUInt32.toUInt16.toUInt32.toInt32)), .val (.int ((((p2.toUInt32 >>> ((16 : Int32) &&& 31).toUInt32).toInt32) &&& (255 : Int32)).toUInt32.toUInt16.toUInt32.toInt32))] [(.int (1 : Int32)), (.ref b2), (.ref b2), (.ref b1), (.ref b1)])) _
  refine Goes.via (fun t k => XS.iloadN X3.here hx rfl (hb hby d7_3_100) rfl k) ?_
  show Goes p e below (T3.setTop (mkF m 101 #[.val (.int (3 : Int32)), .val (.int p2), .val (.int ((p2 &&& (255 : Int32)).toUInt32.toUInt16.toUInt32.toInt32)), .val (.int ((((p2.toUInt32 >>> ((8 : Int32) &&& 31).toUInt32).toInt32) &&& (255 : Int32)).toUInt32.toUInt16.toUInt32.toInt32)), .val (.int ((((p2.toUInt32 >>> ((16 : Int32) &&& 31).toUInt32).toInt32) &&& (255 : Int32)).toUInt32.toUInt16.toUInt32.toInt32))] [(.int ((((p2.toUInt32 >>> ((8 : Int32) &&& 31).toUInt32).toInt32) &&& (255 : Int32)).toUInt32.toUInt16.toUInt32.toInt32)), (.int (1 : Int32)), (.ref b2), (.ref b2), (.ref b1), (.ref b1)])) _
  obtain ⟨cl4, Ar4, qa4, Sa4, Na4, Ha4, Ga4⟩ := V3
  have hin4 : ¬ ((1 : Int32) < 0 ∨ cl4.slots.size ≤ ((1 : Int32)).toNatClampNeg) := inb_of Sa4 ⟨by decide, by decide⟩
  obtain ⟨T4, h4, X4, e4, W4, st4⟩ := stC X3 hx hZ e3 Ar4 (j := (1 : Int32)) hin4 (g := (mkF m 101 #[.val (.int (3 : Int32)), .val (.int p2), .val (.int ((p2 &&& (255 : Int32)).toUInt32.toUInt16.toUInt32.toInt32)), .val (.int ((((p2.toUInt32 >>> ((8 : Int32) &&& 31).toUInt32).toInt32) &&& (255 : Int32)).toUInt32.toUInt16.toUInt32.toInt32)), .val (.int ((((p2.toUInt32 >>> ((16 : Int32) &&& 31).toUInt32).toInt32) &&& (255 : Int32)).toUInt32.toUInt16.toUInt32.toInt32))] [(.int ((((p2.toUInt32 >>> ((8 : Int32) &&& 31).toUInt32).toInt32) &&& (255 : Int32)).toUInt32.toUInt16.toUInt32.toInt32)), (.int (1 : Int32)), (.ref b2), (.ref b2), (.ref b1), (.ref b1)])) rfl rfl (hb hby d7_3_101)
  have V4 : Arv Z h4 b2 ka2 .char (3 : Int32) [(.int (nar .char ((p2 &&& (255 : Int32)).toUInt32.toUInt16.toUInt32.toInt32))), (.int (nar .char ((((p2.toUInt32 >>> ((8 : Int32) &&& 31).toUInt32).toInt32) &&& (255 : Int32)).toUInt32.toUInt16.toUInt32.toInt32))), (.int (0 : Int32))] (.int (0 : Int32)) := Arv.set Ar4 qa4 Sa4 Na4 Ha4 Ga4 (fits_nar_char _) W4 1 rfl (Nat.le_of_ble_eq_true rfl)
  have F4_114 := F3_95.wr W4
  have F4_115 := F3_96.other W4 (Or.inl (Nat.ne_of_lt lt_b1_b2))
  have F4_116 := F3_97.other W4 (Or.inl (Nat.ne_of_lt lt_b1_b2))
  have K4 : Keep h0 h4 [] := K3.wr W4 (Or.inr sz_b2)
  have Z4 : n0 ≤ h4.size := Nat.le_trans Z3 (Keep.of_wr W4).1
  have N4 := Fr.snoc X4 N3 ge_b2
  have O4 := O3.wr W4 ge_b2
  refine Goes.via st4 ?_
  show Goes p e below (T4.setTop (mkF m 102 #[.val (.int (3 : Int32)), .val (.int p2), .val (.int ((p2 &&& (255 : Int32)).toUInt32.toUInt16.toUInt32.toInt32)), .val (.int ((((p2.toUInt32 >>> ((8 : Int32) &&& 31).toUInt32).toInt32) &&& (255 : Int32)).toUInt32.toUInt16.toUInt32.toInt32)), .val (.int ((((p2.toUInt32 >>> ((16 : Int32) &&& 31).toUInt32).toInt32) &&& (255 : Int32)).toUInt32.toUInt16.toUInt32.toInt32))] [(.ref b2), (.ref b1), (.ref b1)])) _
  refine Goes.via (fun t k => XS.dup X4.here hx rfl (hb hby d7_3_102) rfl rfl k) ?_
  show Goes p e below (T4.setTop (mkF m 103 #[.val (.int (3 : Int32)), .val (.int p2), .val (.int ((p2 &&& (255 : Int32)).toUInt32.toUInt16.toUInt32.toInt32)), .val (.int ((((p2.toUInt32 >>> ((8 : Int32) &&& 31).toUInt32).toInt32) &&& (255 : Int32)).toUInt32.toUInt16.toUInt32.toInt32)), .val (.int ((((p2.toUInt32 >>> ((16 : Int32) &&& 31).toUInt32).toInt32) &&& (255 : Int32)).toUInt32.toUInt16.toUInt32.toInt32))] [(.ref b2), (.ref b2), (.ref b1), (.ref b1)])) _
  refine Goes.via (fun t k => XS.iconst X4.here hx rfl (hb hby d7_3_103) k) ?_
  show Goes p e below (T4.setTop (mkF m 104 #[.val (.int (3 : Int32)), .val (.int p2), .val (.int ((p2 &&& (255 : Int32)).toUInt32.toUInt16.toUInt32.toInt32)), .val (.int ((((p2.toUInt32 >>> ((8 : Int32) &&& 31).toUInt32).toInt32) &&& (255 : Int32)).toUInt32.toUInt16.toUInt32.toInt32)), .val (.int ((((p2.toUInt32 >>> ((16 : Int32) &&& 31).toUInt32).toInt32) &&& (255 : Int32)).toUInt32.toUInt16.toUInt32.toInt32))] [(.int (2 : Int32)), (.ref b2), (.ref b2), (.ref b1), (.ref b1)])) _
  refine Goes.via (fun t k => XS.iload X4.here hx rfl (hb hby d7_3_104) rfl k) ?_
  show Goes p e below (T4.setTop (mkF m 106 #[.val (.int (3 : Int32)), .val (.int p2), .val (.int ((p2 &&& (255 : Int32)).toUInt32.toUInt16.toUInt32.toInt32)), .val (.int ((((p2.toUInt32 >>> ((8 : Int32) &&& 31).toUInt32).toInt32) &&& (255 : Int32)).toUInt32.toUInt16.toUInt32.toInt32)), .val (.int ((((p2.toUInt32 >>> ((16 : Int32) &&& 31).toUInt32).toInt32) &&& (255 : Int32)).toUInt32.toUInt16.toUInt32.toInt32))] [(.int ((((p2.toUInt32 >>> ((16 : Int32) &&& 31).toUInt32).toInt32) &&& (255 : Int32)).toUInt32.toUInt16.toUInt32.toInt32)), (.int (2 : Int32)), (.ref b2), (.ref b2), (.ref b1), (.ref b1)])) _
  obtain ⟨cl5, Ar5, qa5, Sa5, Na5, Ha5, Ga5⟩ := V4
  have hin5 : ¬ ((2 : Int32) < 0 ∨ cl5.slots.size ≤ ((2 : Int32)).toNatClampNeg) := inb_of Sa5 ⟨by decide, by decide⟩
  obtain ⟨T5, h5, X5, e5, W5, st5⟩ := stC X4 hx hZ e4 Ar5 (j := (2 : Int32)) hin5 (g := (mkF m 106 #[.val (.int (3 : Int32)), .val (.int p2), .val (.int ((p2 &&& (255 : Int32)).toUInt32.toUInt16.toUInt32.toInt32)), .val (.int ((((p2.toUInt32 >>> ((8 : Int32) &&& 31).toUInt32).toInt32) &&& (255 : Int32)).toUInt32.toUInt16.toUInt32.toInt32)), .val (.int ((((p2.toUInt32 >>> ((16 : Int32) &&& 31).toUInt32).toInt32) &&& (255 : Int32)).toUInt32.toUInt16.toUInt32.toInt32))] [(.int ((((p2.toUInt32 >>> ((16 : Int32) &&& 31).toUInt32).toInt32) &&& (255 : Int32)).toUInt32.toUInt16.toUInt32.toInt32)), (.int (2 : Int32)), (.ref b2), (.ref b2), (.ref b1), (.ref b1)])) rfl rfl (hb hby d7_3_106)
  have V5 : Arv Z h5 b2 ka2 .char (3 : Int32) [(.int (nar .char ((p2 &&& (255 : Int32)).toUInt32.toUInt16.toUInt32.toInt32))), (.int (nar .char ((((p2.toUInt32 >>> ((8 : Int32) &&& 31).toUInt32).toInt32) &&& (255 : Int32)).toUInt32.toUInt16.toUInt32.toInt32))), (.int (nar .char ((((p2.toUInt32 >>> ((16 : Int32) &&& 31).toUInt32).toInt32) &&& (255 : Int32)).toUInt32.toUInt16.toUInt32.toInt32)))] (.int (0 : Int32)) := Arv.set Ar5 qa5 Sa5 Na5 Ha5 Ga5 (fits_nar_char _) W5 2 rfl (Nat.le_of_ble_eq_true rfl)
  have F5_133 := F4_114.wr W5
  have F5_134 := F4_115.other W5 (Or.inl (Nat.ne_of_lt lt_b1_b2))
  have F5_135 := F4_116.other W5 (Or.inl (Nat.ne_of_lt lt_b1_b2))
  have K5 : Keep h0 h5 [] := K4.wr W5 (Or.inr sz_b2)
  have Z5 : n0 ≤ h5.size := Nat.le_trans Z4 (Keep.of_wr W5).1
  have N5 := Fr.snoc X5 N4 ge_b2
  have O5 := O4.wr W5 ge_b2
  refine Goes.via st5 ?_
  show Goes p e below (T5.setTop (mkF m 107 #[.val (.int (3 : Int32)), .val (.int p2), .val (.int ((p2 &&& (255 : Int32)).toUInt32.toUInt16.toUInt32.toInt32)), .val (.int ((((p2.toUInt32 >>> ((8 : Int32) &&& 31).toUInt32).toInt32) &&& (255 : Int32)).toUInt32.toUInt16.toUInt32.toInt32)), .val (.int ((((p2.toUInt32 >>> ((16 : Int32) &&& 31).toUInt32).toInt32) &&& (255 : Int32)).toUInt32.toUInt16.toUInt32.toInt32))] [(.ref b2), (.ref b1), (.ref b1)])) _
  try clear st5; try clear W5; try clear hin5; try clear Ga5; try clear Ha5; try clear Na5; try clear Sa5; try clear qa5; try clear Ar5; try clear cl5; try clear O4; try clear N4
  try clear Z4; try clear K4; try clear F4_116; try clear F4_115; try clear F4_114; try clear V4; try clear st4; try clear W4; try clear e4; try clear X4; try clear h4; try clear T4
  try clear hin4; try clear Ga4; try clear Ha4; try clear Na4; try clear Sa4; try clear qa4; try clear Ar4; try clear cl4; try clear O3; try clear N3; try clear Z3; try clear K3
  try clear F3_97; try clear F3_96; try clear F3_95; try clear V3; try clear st3; try clear W3; try clear e3; try clear X3; try clear h3; try clear T3; try clear hin3; try clear Ga3
  try clear Ha3; try clear Na3; try clear Sa3; try clear qa3; try clear Ar3; try clear cl3; try clear V2; try clear O2; try clear Z2; try clear K2; try clear F2_78; try clear F2_77
  try clear F2_76; try clear g2; try clear st2; try clear A2; try clear E2; try clear e2; try clear X2; try clear h2; try clear T2; try clear F1_value; try clear F1_coder; try clear O1
  try clear Z1; try clear K1; try clear size; try clear h0; try clear g1; try clear st1; try clear D1; try clear A1; try clear E1; try clear e1; try clear X1; try clear h1
  try clear T1
  obtain ⟨Lw6, X6w, N6w⟩ := ownPack X5 N5
  obtain ⟨_, _, ⟨T7, L7, k7, n7⟩, -, X7, ⟨Lc7, hQ7, l7, y7, z7⟩, st7⟩ := X6w.specialBack hx (y := (⟨"java/lang/String", "<init>", "([C)V"⟩ : MethodName)) rfl hown (mvT hZ (hw _ (List.mem_of_getElem? (i := 4) rfl))) (mvT hZ (hw _ (List.mem_of_getElem? (i := 5) rfl))) (mvT hZ (hw _ (List.mem_of_getElem? (i := 6) rfl))) (by decide) (backOf (W := 1) (rm1_3 l Z a0 hw [] b1 b2 ka2 (nar .char ((p2 &&& (255 : Int32)).toUInt32.toUInt16.toUInt32.toInt32)) (nar .char ((((p2.toUInt32 >>> ((8 : Int32) &&& 31).toUInt32).toInt32) &&& (255 : Int32)).toUInt32.toUInt16.toUInt32.toInt32)) (nar .char ((((p2.toUInt32 >>> ((16 : Int32) &&& 31).toUInt32).toInt32) &&& (255 : Int32)).toUInt32.toUInt16.toUInt32.toInt32)) w0 h5 n0 Z5 F5_133 F5_135 F5_134 V5 ge_b1 (Nat.ne_of_lt lt_b1_b2) O5 St (own_c255 _) (own_c255 _) (own_c255 _)) hZ (hw _ (List.mem_of_getElem? (i := 6) rfl)) (hw _ (List.mem_of_getElem? (i := 3) rfl)) (by decide) (by decide)) (g := (mkF m 107 #[.val (.int (3 : Int32)), .val (.int p2), .val (.int ((p2 &&& (255 : Int32)).toUInt32.toUInt16.toUInt32.toInt32)), .val (.int ((((p2.toUInt32 >>> ((8 : Int32) &&& 31).toUInt32).toInt32) &&& (255 : Int32)).toUInt32.toUInt16.toUInt32.toInt32)), .val (.int ((((p2.toUInt32 >>> ((16 : Int32) &&& 31).toUInt32).toInt32) &&& (255 : Int32)).toUInt32.toUInt16.toUInt32.toInt32))] [(.ref b2), (.ref b1), (.ref b1)])) rfl (by rw [hml]; rfl) (Steps.refl _) (a := b1) (argsL := [(.ref b2)]) (rest := [(.ref b1)]) (lenOf pd_7_3_0 rfl) rfl (by show 2 * 0 + _ ≤ _; exact Nat.le_of_eq rfl) (hb hby d7_3_107) (fun _ _ => ⟨rfl, e5, (by decide : 2 + 1 ≤ _), (by decide : 7 + 3 ≤ _)⟩)
  dsimp only [Pt.U, Pt.locs, Pt.cells, Pt.slots] at X7 l7 y7 z7 st7 hQ7
  subst l7 y7 z7
  obtain ⟨rfl, N7q, Kc7, Ec7, Cc7, t7, kt7, gt7, zt7, Vq7, Vc7⟩ := hQ7
  have lt_b1_t7 : b1 < t7 := Nat.lt_of_lt_of_le F5_133.lt zt7
  have lt_b2_t7 : b2 < t7 := Nat.lt_of_lt_of_le V5.lt zt7
  have sz_t7 : h0.size ≤ t7 := Nat.le_trans K5.1 zt7
  have F7_158 := F5_133.keep Kc7
  have F7_159 := V5.keep Kc7 (fun q => (Nat.ne_of_gt lt_b1_b2) (List.mem_singleton.mp q))
  have K7 : Keep h0 T7.heap [] := K5.trans Kc7 (fun x hx => by cases List.mem_singleton.mp hx; exact Or.inr sz_b1)
  have Z7 : n0 ≤ T7.heap.size := Nat.le_trans Z5 Kc7.1
  have O7 := O5.keep Kc7 (fun x hx => by cases List.mem_singleton.mp hx; exact ge_b1)
  have N7 := Fr.app N6w N7q
  refine Goes.via (fun t k => st7.trans k) ?_
  show Goes p e below (T7.setTop (mkF m 110 #[.val (.int (3 : Int32)), .val (.int p2), .val (.int ((p2 &&& (255 : Int32)).toUInt32.toUInt16.toUInt32.toInt32)), .val (.int ((((p2.toUInt32 >>> ((8 : Int32) &&& 31).toUInt32).toInt32) &&& (255 : Int32)).toUInt32.toUInt16.toUInt32.toInt32)), .val (.int ((((p2.toUInt32 >>> ((16 : Int32) &&& 31).toUInt32).toInt32) &&& (255 : Int32)).toUInt32.toUInt16.toUInt32.toInt32))] [(.ref b1)])) _
  obtain ⟨fs, hr, hrun, hended, hW, hsame⟩ := X7.leave (v := some (.ref b1)) (fun h => by rw [Bd.returns] at h; cases h)
  refine ⟨_, _, ?_, hrun, hended, _, _, rfl, ?_, ⟨_, rfl⟩, hW, hsame.mono (by decide) (by decide)⟩
  · exact retOut X7 hx (t := (.object "java/lang/String")) Bd.returns rfl (Or.inr (Or.inr (Or.inr (Or.inr ⟨rfl, rfl, rfl⟩)))) (hb hby d7_3_110) hr
  · exact ⟨b1, t7, _, _, rfl, N7, K7, F7_158, Cc7, Vq7, Vc7⟩
theorem d9_0 : decode jdk_30_method_1_code 0 = .ok (.aload_n 0, 1) := by decide +kernel
theorem d9_1 : decode jdk_30_method_1_code 1 = .ok (.invokespecial 1, 3) := by decide +kernel
theorem d9_4 : decode jdk_30_method_1_code 4 = .ok (.return_, 1) := by decide +kernel
theorem pn_9 : plainName "java/lang/Record" = true := by first | (simp [plainName, overriddenIn]; done) | decide +kernel
theorem ef_9 (m : MethodId) (x0 : Addr) : entryFrame m #[(.ref x0)] 1 = mkF m 0 #[.val (.ref x0)] [] := by first | (simp [entryFrame, mkF, argsToLocals, Value.category]; done) | rfl
def Q9 (Z : State) (h0 : Heap) (n0 : Nat) (v : Option Value) (h : Heap) (L : List Loc) : Prop := v = none ∧ Fr n0 L ∧ h = h0
set_option maxRecDepth 65536 in
set_option maxHeartbeats 40000000 in
theorem rm9 (l : Launch) (Z : State) (a0 : Array Value) (hw : ∀ d ∈ tables_1, d.before a0 Z = true) (ws : List Jvm.Cond) (a1 : Addr) (h0 : Heap) (n0 : Nat) (Z0 : n0 ≤ h0.size) :
    MetFree l (⟨"java/lang/Record", "<init>", "()V"⟩ : MethodName) (head1 (Jvm.Cond.code (⟨"java/lang/Record", "<init>", "()V"⟩ : MethodName) jdk_30_method_1_code 1 none :: ws) ({ frames := 1, cells := 0, slots := 0, locals := 12 } : Room)) (fun a U => a = #[(.ref a1)] ∧ Z.Warmed39 U.vm ∧ U.heap = h0) (fun _ _ _ _ _ => True) (fun _ U o U' => ∃ v L, o = .returned v ∧ Q9 Z  h0 n0 v U'.heap L ∧ FrameEnd U o U' L ({ frames := 1, cells := 0, slots := 0, locals := 12 } : Room).cells ({ frames := 1, cells := 0, slots := 0, locals := 12 } : Room).slots) := by
  refine MetFree.of_bodySF (plainFor_of_name pn_9) hisR ?_
  intro p e s m args below meth c s₁ Bd hml0 hP hK
  obtain ⟨rfl, hZ, hh⟩ := hP
  have hx := Bd.exec
  have hby := Bd.bytes
  have hml : c.maxLocals = 1 := hml0
  have hown : s.vm.findClass "java/lang/Record" = some m.cls := findClass_of_methodNamed Bd.named
  have hnm := (name_of_methodNamed Bd.named Bd.method).1
  have X0 : Stand p l e ({ frames := 1, cells := 0, slots := 0, locals := 12 } : Room) s m #[(.ref a1)] below meth c s₁ [] 0 0 := Stand.of_body Bd
  have e0 : s₁.heap = h0 := by rw [← hh, Bd.state]; rfl
  have N0 := Fr.nil n0
  refine Goes.via (next := s₁.setTop (mkF m 0 #[.val (.ref a1)] [])) (fun t k => castTop (ef_9 m a1) k) ?_
  refine Goes.via (fun t k => XS.aloadN X0.here hx rfl (hb hby d9_0) rfl rfl k) ?_
  show Goes p e below (s₁.setTop (mkF m 1 #[.val (.ref a1)] [(.ref a1)])) _
  obtain ⟨T1, X1, e1, st1⟩ := initO X0 hx hZ hown (hw _ (List.mem_of_getElem? (i := 46) rfl)) (hw _ (List.mem_of_getElem? (i := 12) rfl)) (hw _ (List.mem_of_getElem? (i := 13) rfl)) e0 (g := (mkF m 1 #[.val (.ref a1)] [(.ref a1)])) rfl (by rw [hml]; rfl) rfl (hb hby d9_1) (by decide) (W := 0) (by show 2 * 0 + _ ≤ _; exact Nat.le_of_eq rfl) (by decide)
  refine Goes.via st1 ?_
  show Goes p e below (T1.setTop (mkF m 4 #[.val (.ref a1)] [])) _
  obtain ⟨fs, hr, hrun, hended, hW, hsame⟩ := X1.leave (v := none) (fun _ => rfl)
  refine ⟨_, _, ?_, hrun, hended, _, _, rfl, ?_, ⟨_, rfl⟩, hW, hsame.mono (by decide) (by decide)⟩
  · exact X1.returnOut hx Bd.returns (hb hby d9_4) hr
  · show Q9 Z  h0 n0 _ T1.heap _
    rw [e1]
    exact ⟨rfl, N0, rfl⟩
theorem d8_0 : decode prog_40_method_1_code 0 = .ok (.aload_n 0, 1) := by decide +kernel
theorem d8_1 : decode prog_40_method_1_code 1 = .ok (.invokespecial 1, 3) := by decide +kernel
theorem d8_4 : decode prog_40_method_1_code 4 = .ok (.aload_n 0, 1) := by decide +kernel
theorem d8_5 : decode prog_40_method_1_code 5 = .ok (.aload_n 1, 1) := by decide +kernel
theorem d8_6 : decode prog_40_method_1_code 6 = .ok (.putfield 7, 3) := by decide +kernel
theorem d8_9 : decode prog_40_method_1_code 9 = .ok (.aload_n 0, 1) := by decide +kernel
theorem d8_10 : decode prog_40_method_1_code 10 = .ok (.iload_n 2, 1) := by decide +kernel
theorem d8_11 : decode prog_40_method_1_code 11 = .ok (.putfield 13, 3) := by decide +kernel
theorem d8_14 : decode prog_40_method_1_code 14 = .ok (.aload_n 0, 1) := by decide +kernel
theorem d8_15 : decode prog_40_method_1_code 15 = .ok (.iload_n 3, 1) := by decide +kernel
theorem d8_16 : decode prog_40_method_1_code 16 = .ok (.putfield 17, 3) := by decide +kernel
theorem d8_19 : decode prog_40_method_1_code 19 = .ok (.aload_n 0, 1) := by decide +kernel
theorem d8_20 : decode prog_40_method_1_code 20 = .ok (.aload 4, 2) := by decide +kernel
theorem d8_22 : decode prog_40_method_1_code 22 = .ok (.putfield 20, 3) := by decide +kernel
theorem d8_25 : decode prog_40_method_1_code 25 = .ok (.return_, 1) := by decide +kernel
theorem pn_8 : plainName "com/example/beforehand/beforehand/TextPart" = true := by first | (simp [plainName, overriddenIn]; done) | decide +kernel
theorem pd_8_0 : parseMethodDescriptor "()V" = some ⟨[], none⟩ := by decide +kernel
theorem ef_8 (m : MethodId) (x0 : Addr) (x1 : Addr) (x2 : Int32) (x3 : Int32) (x4 : Addr) : entryFrame m #[(.ref x0), (.ref x1), (.int x2), (.int x3), (.ref x4)] 5 = mkF m 0 #[.val (.ref x0), .val (.ref x1), .val (.int x2), .val (.int x3), .val (.ref x4)] [] := by first | (simp [entryFrame, mkF, argsToLocals, Value.category]; done) | rfl
def Q8 (Z : State) (a1 : Addr) (p3 p4 : Int32) (a5 : Addr) (h0 : Heap) (n0 : Nat) (v : Option Value) (h : Heap) (L : List Loc) : Prop := v = none ∧ Fr n0 L ∧ Keep h0 h [a1] ∧ Fld Z h a1 "com/example/beforehand/beforehand/TextPart" "from" "I" (.int p3) ∧ Fld Z h a1 "com/example/beforehand/beforehand/TextPart" "end" "I" (.int p4) ∧ Fld Z h a1 "com/example/beforehand/beforehand/TextPart" "after" "Ljava/lang/String;" (.ref a5)
set_option maxRecDepth 65536 in
set_option maxHeartbeats 40000000 in
theorem rm8 (l : Launch) (Z : State) (a0 : Array Value) (hw : ∀ d ∈ tables_1, d.before a0 Z = true) (ws : List Jvm.Cond) (a1 : Addr) (a2 : Addr) (p3 : Int32) (p4 : Int32) (a5 : Addr) (h0 : Heap) (n0 : Nat) (Z0 : n0 ≤ h0.size) (E1 : Exa Z h0 a1 "com/example/beforehand/beforehand/TextPart") (F1 : Fld Z h0 a1 "com/example/beforehand/beforehand/TextPart" "text" "Ljava/lang/CharSequence;" .null) (F2 : Fld Z h0 a1 "com/example/beforehand/beforehand/TextPart" "from" "I" (.int (0 : Int32))) (F3 : Fld Z h0 a1 "com/example/beforehand/beforehand/TextPart" "end" "I" (.int (0 : Int32))) (F4 : Fld Z h0 a1 "com/example/beforehand/beforehand/TextPart" "after" "Ljava/lang/String;" .null) (g1 : n0 ≤ a1) :
    MetFree l (⟨"com/example/beforehand/beforehand/TextPart", "<init>", "(Ljava/lang/CharSequence;IILjava/lang/String;)V"⟩ : MethodName) (head1 (Jvm.Cond.code (⟨"com/example/beforehand/beforehand/TextPart", "<init>", "(Ljava/lang/CharSequence;IILjava/lang/String;)V"⟩ : MethodName) prog_40_method_1_code 5 none :: ws) ({ frames := 2, cells := 0, slots := 0, locals := 24 } : Room)) (fun a U => a = #[(.ref a1), (.ref a2), (.int p3), (.int p4), (.ref a5)] ∧ Z.Warmed39 U.vm ∧ U.heap = h0) (fun _ _ _ _ _ => True) (fun _ U o U' => ∃ v L, o = .returned v ∧ Q8 Z a1 p3 p4 a5 h0 n0 v U'.heap L ∧ FrameEnd U o U' L ({ frames := 2, cells := 0, slots := 0, locals := 24 } : Room).cells ({ frames := 2, cells := 0, slots := 0, locals := 24 } : Room).slots) := by
  refine MetFree.of_bodySF (plainFor_of_name pn_8) hisR ?_
  intro p e s m args below meth c s₁ Bd hml0 hP hK
  obtain ⟨rfl, hZ, hh⟩ := hP
  have hx := Bd.exec
  have hby := Bd.bytes
  have hml : c.maxLocals = 5 := hml0
  have hown : s.vm.findClass "com/example/beforehand/beforehand/TextPart" = some m.cls := findClass_of_methodNamed Bd.named
  have hnm := (name_of_methodNamed Bd.named Bd.method).1
  have X0 : Stand p l e ({ frames := 2, cells := 0, slots := 0, locals := 24 } : Room) s m #[(.ref a1), (.ref a2), (.int p3), (.int p4), (.ref a5)] below meth c s₁ [] 0 0 := Stand.of_body Bd
  have e0 : s₁.heap = h0 := by rw [← hh, Bd.state]; rfl
  have N0 := Fr.nil n0
  refine Goes.via (next := s₁.setTop (mkF m 0 #[.val (.ref a1), .val (.ref a2), .val (.int p3), .val (.int p4), .val (.ref a5)] [])) (fun t k => castTop (ef_8 m a1 a2 p3 p4 a5) k) ?_
  refine Goes.via (fun t k => XS.aloadN X0.here hx rfl (hb hby d8_0) rfl rfl k) ?_
  show Goes p e below (s₁.setTop (mkF m 1 #[.val (.ref a1), .val (.ref a2), .val (.int p3), .val (.int p4), .val (.ref a5)] [(.ref a1)])) _
  obtain ⟨_, _, ⟨T1, L1, k1, n1⟩, -, X1, ⟨Lc1, hQ1, l1, y1, z1⟩, st1⟩ := X0.specialBack hx (y := (⟨"java/lang/Record", "<init>", "()V"⟩ : MethodName)) rfl hown (mvT hZ (hw _ (List.mem_of_getElem? (i := 41) rfl))) (mvT hZ (hw _ (List.mem_of_getElem? (i := 42) rfl))) (mvT hZ (hw _ (List.mem_of_getElem? (i := 45) rfl))) (by decide) (backOf (W := 0) (rm9 l Z a0 hw [] a1  h0 n0 Z0 ) hZ (hw _ (List.mem_of_getElem? (i := 45) rfl)) (hw _ (List.mem_of_getElem? (i := 44) rfl)) (by decide) (by decide)) (g := (mkF m 1 #[.val (.ref a1), .val (.ref a2), .val (.int p3), .val (.int p4), .val (.ref a5)] [(.ref a1)])) rfl (by rw [hml]; rfl) (Steps.refl _) (a := a1) (argsL := []) (rest := []) (lenOf pd_8_0 rfl) rfl (by show 2 * 0 + _ ≤ _; exact Nat.le_of_eq rfl) (hb hby d8_1) (fun _ _ => ⟨rfl, e0, (by decide : 0 + 0 ≤ _), (by decide : 0 + 0 ≤ _)⟩)
  dsimp only [Pt.U, Pt.locs, Pt.cells, Pt.slots] at X1 l1 y1 z1 st1 hQ1
  subst l1 y1 z1
  obtain ⟨rfl, N1q, er1⟩ := hQ1
  have e1 : T1.heap = h0 := er1
  have N1 := Fr.app N0 N1q
  refine Goes.via (fun t k => st1.trans k) ?_
  show Goes p e below (T1.setTop (mkF m 4 #[.val (.ref a1), .val (.ref a2), .val (.int p3), .val (.int p4), .val (.ref a5)] [])) _
  refine Goes.via (fun t k => XS.aloadN X1.here hx rfl (hb hby d8_4) rfl rfl k) ?_
  show Goes p e below (T1.setTop (mkF m 5 #[.val (.ref a1), .val (.ref a2), .val (.int p3), .val (.int p4), .val (.ref a5)] [(.ref a1)])) _
  refine Goes.via (fun t k => XS.aloadN X1.here hx rfl (hb hby d8_5) rfl rfl k) ?_
  show Goes p e below (T1.setTop (mkF m 6 #[.val (.ref a1), .val (.ref a2), .val (.int p3), .val (.int p4), .val (.ref a5)] [(.ref a2), (.ref a1)])) _
  obtain ⟨T2, h2, X2, e2, W2, st2⟩ := putF X1 hx hZ hown (host := "") (Or.inl (hw _ (List.mem_of_getElem? (i := 47) rfl))) Via.refl e1 F1 E1 (Or.inr ⟨(hw _ (List.mem_of_getElem? (i := 48) rfl)), rfl, hnm⟩) (hw _ (List.mem_of_getElem? (i := 36) rfl)) (ty := (.object "java/lang/CharSequence")) (by decide) rfl rfl (g := (mkF m 6 #[.val (.ref a1), .val (.ref a2), .val (.int p3), .val (.int p4), .val (.ref a5)] [(.ref a2), (.ref a1)])) rfl rfl (hb hby d8_6)
  have Fw2 := F1.same W2
  have F2_16 := E1.wr W2
  have F2_17 := F2.other W2 (Or.inr (slot_ne (Or.inr (hw _ (List.mem_of_getElem? (i := 50) rfl))) (Or.inr (hw _ (List.mem_of_getElem? (i := 48) rfl))) (by decide) (t := .int) (t' := (.object "java/lang/CharSequence")) (by decide) (by decide)))
  have F2_18 := F3.other W2 (Or.inr (slot_ne (Or.inr (hw _ (List.mem_of_getElem? (i := 52) rfl))) (Or.inr (hw _ (List.mem_of_getElem? (i := 48) rfl))) (by decide) (t := .int) (t' := (.object "java/lang/CharSequence")) (by decide) (by decide)))
  have F2_19 := F4.other W2 (Or.inr (slot_ne (Or.inr (hw _ (List.mem_of_getElem? (i := 54) rfl))) (Or.inr (hw _ (List.mem_of_getElem? (i := 48) rfl))) (by decide) (t := (.object "java/lang/String")) (t' := (.object "java/lang/CharSequence")) (by decide) (by decide)))
  have K2 : Keep h0 h2 [a1] := (Keep.refl h0 [a1]).wr W2 (Or.inl (List.mem_of_getElem? (i := 0) rfl))
  have Z2 : n0 ≤ h2.size := Nat.le_trans Z0 (Keep.of_wr W2).1
  have N2 := Fr.snoc X2 N1 g1
  refine Goes.via st2 ?_
  show Goes p e below (T2.setTop (mkF m 9 #[.val (.ref a1), .val (.ref a2), .val (.int p3), .val (.int p4), .val (.ref a5)] [])) _
  refine Goes.via (fun t k => XS.aloadN X2.here hx rfl (hb hby d8_9) rfl rfl k) ?_
  show Goes p e below (T2.setTop (mkF m 10 #[.val (.ref a1), .val (.ref a2), .val (.int p3), .val (.int p4), .val (.ref a5)] [(.ref a1)])) _
  refine Goes.via (fun t k => XS.iloadN X2.here hx rfl (hb hby d8_10) rfl k) ?_
  show Goes p e below (T2.setTop (mkF m 11 #[.val (.ref a1), .val (.ref a2), .val (.int p3), .val (.int p4), .val (.ref a5)] [(.int p3), (.ref a1)])) _
  obtain ⟨T3, h3, X3, e3, W3, st3⟩ := putF X2 hx hZ hown (host := "") (Or.inl (hw _ (List.mem_of_getElem? (i := 49) rfl))) Via.refl e2 F2_17 F2_16 (Or.inr ⟨(hw _ (List.mem_of_getElem? (i := 50) rfl)), rfl, hnm⟩) (hw _ (List.mem_of_getElem? (i := 36) rfl)) (ty := .int) (by decide) rfl rfl (g := (mkF m 11 #[.val (.ref a1), .val (.ref a2), .val (.int p3), .val (.int p4), .val (.ref a5)] [(.int p3), (.ref a1)])) rfl rfl (hb hby d8_11)
  have Fw3 := F2_17.same W3
  have F3_31 := F2_16.wr W3
  have F3_32 := F2_18.other W3 (Or.inr (slot_ne (Or.inr (hw _ (List.mem_of_getElem? (i := 52) rfl))) (Or.inr (hw _ (List.mem_of_getElem? (i := 50) rfl))) (by decide) (t := .int) (t' := .int) (by decide) (by decide)))
  have F3_33 := F2_19.other W3 (Or.inr (slot_ne (Or.inr (hw _ (List.mem_of_getElem? (i := 54) rfl))) (Or.inr (hw _ (List.mem_of_getElem? (i := 50) rfl))) (by decide) (t := (.object "java/lang/String")) (t' := .int) (by decide) (by decide)))
  have F3_34 := Fw2.other W3 (Or.inr (slot_ne (Or.inr (hw _ (List.mem_of_getElem? (i := 48) rfl))) (Or.inr (hw _ (List.mem_of_getElem? (i := 50) rfl))) (by decide) (t := (.object "java/lang/CharSequence")) (t' := .int) (by decide) (by decide)))
  have K3 : Keep h0 h3 [a1] := K2.wr W3 (Or.inl (List.mem_of_getElem? (i := 0) rfl))
  have Z3 : n0 ≤ h3.size := Nat.le_trans Z2 (Keep.of_wr W3).1
  have N3 := Fr.snoc X3 N2 g1
  refine Goes.via st3 ?_
  show Goes p e below (T3.setTop (mkF m 14 #[.val (.ref a1), .val (.ref a2), .val (.int p3), .val (.int p4), .val (.ref a5)] [])) _
  refine Goes.via (fun t k => XS.aloadN X3.here hx rfl (hb hby d8_14) rfl rfl k) ?_
  show Goes p e below (T3.setTop (mkF m 15 #[.val (.ref a1), .val (.ref a2), .val (.int p3), .val (.int p4), .val (.ref a5)] [(.ref a1)])) _
  refine Goes.via (fun t k => XS.iloadN X3.here hx rfl (hb hby d8_15) rfl k) ?_
  show Goes p e below (T3.setTop (mkF m 16 #[.val (.ref a1), .val (.ref a2), .val (.int p3), .val (.int p4), .val (.ref a5)] [(.int p4), (.ref a1)])) _
  obtain ⟨T4, h4, X4, e4, W4, st4⟩ := putF X3 hx hZ hown (host := "") (Or.inl (hw _ (List.mem_of_getElem? (i := 51) rfl))) Via.refl e3 F3_32 F3_31 (Or.inr ⟨(hw _ (List.mem_of_getElem? (i := 52) rfl)), rfl, hnm⟩) (hw _ (List.mem_of_getElem? (i := 36) rfl)) (ty := .int) (by decide) rfl rfl (g := (mkF m 16 #[.val (.ref a1), .val (.ref a2), .val (.int p3), .val (.int p4), .val (.ref a5)] [(.int p4), (.ref a1)])) rfl rfl (hb hby d8_16)
  have Fw4 := F3_32.same W4
  have F4_46 := F3_31.wr W4
  have F4_47 := F3_33.other W4 (Or.inr (slot_ne (Or.inr (hw _ (List.mem_of_getElem? (i := 54) rfl))) (Or.inr (hw _ (List.mem_of_getElem? (i := 52) rfl))) (by decide) (t := (.object "java/lang/String")) (t' := .int) (by decide) (by decide)))
  have F4_48 := F3_34.other W4 (Or.inr (slot_ne (Or.inr (hw _ (List.mem_of_getElem? (i := 48) rfl))) (Or.inr (hw _ (List.mem_of_getElem? (i := 52) rfl))) (by decide) (t := (.object "java/lang/CharSequence")) (t' := .int) (by decide) (by decide)))
  have F4_49 := Fw3.other W4 (Or.inr (slot_ne (Or.inr (hw _ (List.mem_of_getElem? (i := 50) rfl))) (Or.inr (hw _ (List.mem_of_getElem? (i := 52) rfl))) (by decide) (t := .int) (t' := .int) (by decide) (by decide)))
  have K4 : Keep h0 h4 [a1] := K3.wr W4 (Or.inl (List.mem_of_getElem? (i := 0) rfl))
  have Z4 : n0 ≤ h4.size := Nat.le_trans Z3 (Keep.of_wr W4).1
  have N4 := Fr.snoc X4 N3 g1
  refine Goes.via st4 ?_
  show Goes p e below (T4.setTop (mkF m 19 #[.val (.ref a1), .val (.ref a2), .val (.int p3), .val (.int p4), .val (.ref a5)] [])) _
  refine Goes.via (fun t k => XS.aloadN X4.here hx rfl (hb hby d8_19) rfl rfl k) ?_
  show Goes p e below (T4.setTop (mkF m 20 #[.val (.ref a1), .val (.ref a2), .val (.int p3), .val (.int p4), .val (.ref a5)] [(.ref a1)])) _
  refine Goes.via (fun t k => XS.aload X4.here hx rfl (hb hby d8_20) rfl rfl k) ?_
  show Goes p e below (T4.setTop (mkF m 22 #[.val (.ref a1), .val (.ref a2), .val (.int p3), .val (.int p4), .val (.ref a5)] [(.ref a5), (.ref a1)])) _
  obtain ⟨T5, h5, X5, e5, W5, st5⟩ := putF X4 hx hZ hown (host := "") (Or.inl (hw _ (List.mem_of_getElem? (i := 53) rfl))) Via.refl e4 F4_47 F4_46 (Or.inr ⟨(hw _ (List.mem_of_getElem? (i := 54) rfl)), rfl, hnm⟩) (hw _ (List.mem_of_getElem? (i := 36) rfl)) (ty := (.object "java/lang/String")) (by decide) rfl rfl (g := (mkF m 22 #[.val (.ref a1), .val (.ref a2), .val (.int p3), .val (.int p4), .val (.ref a5)] [(.ref a5), (.ref a1)])) rfl rfl (hb hby d8_22)
  have Fw5 := F4_47.same W5
  have F5_61 := F4_46.wr W5
  have F5_62 := F4_48.other W5 (Or.inr (slot_ne (Or.inr (hw _ (List.mem_of_getElem? (i := 48) rfl))) (Or.inr (hw _ (List.mem_of_getElem? (i := 54) rfl))) (by decide) (t := (.object "java/lang/CharSequence")) (t' := (.object "java/lang/String")) (by decide) (by decide)))
  have F5_63 := F4_49.other W5 (Or.inr (slot_ne (Or.inr (hw _ (List.mem_of_getElem? (i := 50) rfl))) (Or.inr (hw _ (List.mem_of_getElem? (i := 54) rfl))) (by decide) (t := .int) (t' := (.object "java/lang/String")) (by decide) (by decide)))
  have F5_64 := Fw4.other W5 (Or.inr (slot_ne (Or.inr (hw _ (List.mem_of_getElem? (i := 52) rfl))) (Or.inr (hw _ (List.mem_of_getElem? (i := 54) rfl))) (by decide) (t := .int) (t' := (.object "java/lang/String")) (by decide) (by decide)))
  have K5 : Keep h0 h5 [a1] := K4.wr W5 (Or.inl (List.mem_of_getElem? (i := 0) rfl))
  have Z5 : n0 ≤ h5.size := Nat.le_trans Z4 (Keep.of_wr W5).1
  have N5 := Fr.snoc X5 N4 g1
  refine Goes.via st5 ?_
  show Goes p e below (T5.setTop (mkF m 25 #[.val (.ref a1), .val (.ref a2), .val (.int p3), .val (.int p4), .val (.ref a5)] [])) _
  obtain ⟨fs, hr, hrun, hended, hW, hsame⟩ := X5.leave (v := none) (fun _ => rfl)
  refine ⟨_, _, ?_, hrun, hended, _, _, rfl, ?_, ⟨_, rfl⟩, hW, hsame.mono (by decide) (by decide)⟩
  · exact X5.returnOut hx Bd.returns (hb hby d8_25) hr
  · show Q8 Z a1 p3 p4 a5 h0 n0 _ T5.heap _
    rw [e5]
    exact ⟨rfl, N5, K5, F5_63, F5_64, Fw5⟩
theorem d10_0_0 : decode prog_40_method_2_code 0 = .ok (.aload_n 0, 1) := by decide +kernel
theorem d10_0_1 : decode prog_40_method_2_code 1 = .ok (.getfield 17, 3) := by decide +kernel
theorem d10_0_4 : decode prog_40_method_2_code 4 = .ok (.aload_n 0, 1) := by decide +kernel
theorem d10_0_5 : decode prog_40_method_2_code 5 = .ok (.getfield 13, 3) := by decide +kernel
theorem d10_0_8 : decode prog_40_method_2_code 8 = .ok (.isub, 1) := by decide +kernel
theorem d10_0_9 : decode prog_40_method_2_code 9 = .ok (.aload_n 0, 1) := by decide +kernel
theorem d10_0_10 : decode prog_40_method_2_code 10 = .ok (.getfield 20, 3) := by decide +kernel
theorem d10_0_13 : decode prog_40_method_2_code 13 = .ok (.invokevirtual 24, 3) := by decide +kernel
theorem d10_0_16 : decode prog_40_method_2_code 16 = .ok (.iadd, 1) := by decide +kernel
theorem d10_0_17 : decode prog_40_method_2_code 17 = .ok (.ireturn, 1) := by decide +kernel
theorem pn_10_0 : plainName "com/example/beforehand/beforehand/TextPart" = true := by first | (simp [plainName, overriddenIn]; done) | decide +kernel
theorem pd_10_0_0 : parseMethodDescriptor "()I" = some ⟨[], some .int⟩ := by decide +kernel
theorem ef_10_0 (m : MethodId) (x0 : Addr) : entryFrame m #[(.ref x0)] 1 = mkF m 0 #[.val (.ref x0)] [] := by first | (simp [entryFrame, mkF, argsToLocals, Value.category]; done) | rfl
def Q10_0 (Z : State) (p3 p4 : Int32) (h0 : Heap) (n0 : Nat) (v : Option Value) (h : Heap) (L : List Loc) : Prop := v = some (.int ((p4 - p3) + (0 : Int32))) ∧ Fr n0 L ∧ h = h0
set_option maxRecDepth 65536 in
set_option maxHeartbeats 40000000 in
theorem rm10_0 (l : Launch) (Z : State) (a0 : Array Value) (hw : ∀ d ∈ tables_1, d.before a0 Z = true) (ws : List Jvm.Cond) (a1 : Addr) (p3 p4 : Int32) (a5 t5 : Addr) (k5 : ClassId) (vs : List Value) (w0 : Int32) (h0 : Heap) (n0 : Nat) (Z0 : n0 ≤ h0.size) (F2 : Fld Z h0 a1 "com/example/beforehand/beforehand/TextPart" "from" "I" (.int p3)) (F3 : Fld Z h0 a1 "com/example/beforehand/beforehand/TextPart" "end" "I" (.int p4)) (F4 : Fld Z h0 a1 "com/example/beforehand/beforehand/TextPart" "after" "Ljava/lang/String;" (.ref a5)) (E5 : Exa Z h0 a5 "java/lang/String") (Fv : Fld Z h0 a5 "java/lang/String" "value" "[B" (.ref t5)) (Fc : Fld Z h0 a5 "java/lang/String" "coder" "B" (.int (0 : Int32))) (V5 : Arv Z h0 t5 k5 .byte (0 : Int32) vs (.int (0 : Int32))) (O0 : Old Z n0 h0) (St : own_St Z w0) :
    MetFree l (⟨"com/example/beforehand/beforehand/TextPart", "length", "()I"⟩ : MethodName) (head1 (Jvm.Cond.code (⟨"com/example/beforehand/beforehand/TextPart", "length", "()I"⟩ : MethodName) prog_40_method_2_code 1 (some .int) :: ws) ({ frames := 2, cells := 0, slots := 0, locals := 26 } : Room)) (fun a U => a = #[(.ref a1)] ∧ Z.Warmed39 U.vm ∧ U.heap = h0) (fun _ _ _ _ _ => True) (fun _ U o U' => ∃ v L, o = .returned v ∧ Q10_0 Z p3 p4 h0 n0 v U'.heap L ∧ FrameEnd U o U' L ({ frames := 2, cells := 0, slots := 0, locals := 26 } : Room).cells ({ frames := 2, cells := 0, slots := 0, locals := 26 } : Room).slots) := by
  refine MetFree.of_bodySF (plainFor_of_name pn_10_0) hisR ?_
  intro p e s m args below meth c s₁ Bd hml0 hP hK
  obtain ⟨rfl, hZ, hh⟩ := hP
  have hx := Bd.exec
  have hby := Bd.bytes
  have hml : c.maxLocals = 1 := hml0
  have hown : s.vm.findClass "com/example/beforehand/beforehand/TextPart" = some m.cls := findClass_of_methodNamed Bd.named
  have hnm := (name_of_methodNamed Bd.named Bd.method).1
  have X0 : Stand p l e ({ frames := 2, cells := 0, slots := 0, locals := 26 } : Room) s m #[(.ref a1)] below meth c s₁ [] 0 0 := Stand.of_body Bd
  have e0 : s₁.heap = h0 := by rw [← hh, Bd.state]; rfl
  have N0 := Fr.nil n0
  refine Goes.via (next := s₁.setTop (mkF m 0 #[.val (.ref a1)] [])) (fun t k => castTop (ef_10_0 m a1) k) ?_
  refine Goes.via (fun t k => XS.aloadN X0.here hx rfl (hb hby d10_0_0) rfl rfl k) ?_
  show Goes p e below (s₁.setTop (mkF m 1 #[.val (.ref a1)] [(.ref a1)])) _
  obtain ⟨T1, X1, e1, st1⟩ := getF X0 hx hZ hown (host := "") (Or.inl (hw _ (List.mem_of_getElem? (i := 51) rfl))) Via.refl e0 F3 (g := (mkF m 1 #[.val (.ref a1)] [(.ref a1)])) rfl rfl (hb hby d10_0_1)
  refine Goes.via st1 ?_
  show Goes p e below (T1.setTop (mkF m 4 #[.val (.ref a1)] [(.int p4)])) _
  refine Goes.via (fun t k => XS.aloadN X1.here hx rfl (hb hby d10_0_4) rfl rfl k) ?_
  show Goes p e below (T1.setTop (mkF m 5 #[.val (.ref a1)] [(.ref a1), (.int p4)])) _
  obtain ⟨T2, X2, e2, st2⟩ := getF X1 hx hZ hown (host := "") (Or.inl (hw _ (List.mem_of_getElem? (i := 49) rfl))) Via.refl e1 F2 (g := (mkF m 5 #[.val (.ref a1)] [(.ref a1), (.int p4)])) rfl rfl (hb hby d10_0_5)
  refine Goes.via st2 ?_
  show Goes p e below (T2.setTop (mkF m 8 #[.val (.ref a1)] [(.int p3), (.int p4)])) _
  refine Goes.via (fun t k => XS.isub X2.here hx rfl (hb hby d10_0_8) rfl k) ?_
  show Goes p e below (T2.setTop (mkF m 9 #[.val (.ref a1)] [(.int (p4 - p3))])) _
  refine Goes.via (fun t k => XS.aloadN X2.here hx rfl (hb hby d10_0_9) rfl rfl k) ?_
  show Goes p e below (T2.setTop (mkF m 10 #[.val (.ref a1)] [(.ref a1), (.int (p4 - p3))])) _
  obtain ⟨T3, X3, e3, st3⟩ := getF X2 hx hZ hown (host := "") (Or.inl (hw _ (List.mem_of_getElem? (i := 53) rfl))) Via.refl e2 F4 (g := (mkF m 10 #[.val (.ref a1)] [(.ref a1), (.int (p4 - p3))])) rfl rfl (hb hby d10_0_10)
  refine Goes.via st3 ?_
  show Goes p e below (T3.setTop (mkF m 13 #[.val (.ref a1)] [(.ref a5), (.int (p4 - p3))])) _
  obtain ⟨cq4, kq4, q4a, q4b, q4c⟩ := isOf hZ e3 E5
  obtain ⟨_, _, ⟨T4, L4, k4, n4⟩, -, X4, ⟨Lc4, hQ4, l4, y4, z4⟩, st4⟩ := X3.virtualBack hx (y := (⟨"java/lang/String", "length", "()I"⟩ : MethodName)) (z := (⟨"java/lang/String", "length", "()I"⟩ : MethodName)) hown (mvT hZ (hw _ (List.mem_of_getElem? (i := 60) rfl))) (mvT hZ (hw _ (List.mem_of_getElem? (i := 61) rfl))) (notFace_of_selects (args := #[]) (mvT hZ (hw _ (List.mem_of_getElem? (i := 63) rfl)))) (mvT hZ (hw _ (List.mem_of_getElem? (i := 63) rfl))) (mvT hZ (hw _ (List.mem_of_getElem? (i := 62) rfl))) (by decide) (backOf (W := 1) (rm11_0 l Z a0 hw [] a5 t5 k5 _ w0 h0 n0 Z0 E5 Fv Fc V5 O0 St) hZ (hw _ (List.mem_of_getElem? (i := 64) rfl)) (hw _ (List.mem_of_getElem? (i := 3) rfl)) (by decide) (by decide)) q4a q4c (g := (mkF m 13 #[.val (.ref a1)] [(.ref a5), (.int (p4 - p3))])) rfl (by rw [hml]; rfl) (Steps.refl _) (argsL := []) (rest := [(.int (p4 - p3))]) (lenOf pd_10_0_0 rfl) rfl (by show 2 * 0 + _ ≤ _; exact Nat.le_of_eq rfl) (hb hby d10_0_13) (fun _ _ => ⟨rfl, e3, (by decide : 0 + 0 ≤ _), (by decide : 0 + 0 ≤ _)⟩)
  dsimp only [Pt.U, Pt.locs, Pt.cells, Pt.slots] at X4 l4 y4 z4 st4 hQ4
  subst l4 y4 z4
  obtain ⟨rfl, N4q, er4⟩ := hQ4
  have e4 : T4.heap = h0 := er4
  have N4 := Fr.app N0 N4q
  refine Goes.via (fun t k => st4.trans k) ?_
  show Goes p e below (T4.setTop (mkF m 16 #[.val (.ref a1)] [(.int (0 : Int32)), (.int (p4 - p3))])) _
  refine Goes.via (fun t k => XS.iadd X4.here hx rfl (hb hby d10_0_16) rfl k) ?_
  show Goes p e below (T4.setTop (mkF m 17 #[.val (.ref a1)] [(.int ((p4 - p3) + (0 : Int32)))])) _
  obtain ⟨fs, hr, hrun, hended, hW, hsame⟩ := X4.leave (v := some (.int ((p4 - p3) + (0 : Int32)))) (fun h => by rw [Bd.returns] at h; cases h)
  refine ⟨_, _, ?_, hrun, hended, _, _, rfl, ?_, ⟨_, rfl⟩, hW, hsame.mono (by decide) (by decide)⟩
  · exact retI X4 hx Bd.returns (hb hby d10_0_17) hr
  · show Q10_0 Z p3 p4 h0 n0 _ T4.heap _
    rw [e4]
    exact ⟨rfl, N4, rfl⟩
theorem d10_1_0 : decode prog_40_method_2_code 0 = .ok (.aload_n 0, 1) := by decide +kernel
theorem d10_1_1 : decode prog_40_method_2_code 1 = .ok (.getfield 17, 3) := by decide +kernel
theorem d10_1_4 : decode prog_40_method_2_code 4 = .ok (.aload_n 0, 1) := by decide +kernel
theorem d10_1_5 : decode prog_40_method_2_code 5 = .ok (.getfield 13, 3) := by decide +kernel
theorem d10_1_8 : decode prog_40_method_2_code 8 = .ok (.isub, 1) := by decide +kernel
theorem d10_1_9 : decode prog_40_method_2_code 9 = .ok (.aload_n 0, 1) := by decide +kernel
theorem d10_1_10 : decode prog_40_method_2_code 10 = .ok (.getfield 20, 3) := by decide +kernel
theorem d10_1_13 : decode prog_40_method_2_code 13 = .ok (.invokevirtual 24, 3) := by decide +kernel
theorem d10_1_16 : decode prog_40_method_2_code 16 = .ok (.iadd, 1) := by decide +kernel
theorem d10_1_17 : decode prog_40_method_2_code 17 = .ok (.ireturn, 1) := by decide +kernel
theorem pn_10_1 : plainName "com/example/beforehand/beforehand/TextPart" = true := by first | (simp [plainName, overriddenIn]; done) | decide +kernel
theorem pd_10_1_0 : parseMethodDescriptor "()I" = some ⟨[], some .int⟩ := by decide +kernel
theorem ef_10_1 (m : MethodId) (x0 : Addr) : entryFrame m #[(.ref x0)] 1 = mkF m 0 #[.val (.ref x0)] [] := by first | (simp [entryFrame, mkF, argsToLocals, Value.category]; done) | rfl
def Q10_1 (Z : State) (p3 p4 : Int32) (h0 : Heap) (n0 : Nat) (v : Option Value) (h : Heap) (L : List Loc) : Prop := v = some (.int ((p4 - p3) + (1 : Int32))) ∧ Fr n0 L ∧ h = h0
set_option maxRecDepth 65536 in
set_option maxHeartbeats 40000000 in
theorem rm10_1 (l : Launch) (Z : State) (a0 : Array Value) (hw : ∀ d ∈ tables_1, d.before a0 Z = true) (ws : List Jvm.Cond) (a1 : Addr) (p3 p4 : Int32) (a5 t5 : Addr) (k5 : ClassId) (vs : List Value) (w0 : Int32) (h0 : Heap) (n0 : Nat) (Z0 : n0 ≤ h0.size) (F2 : Fld Z h0 a1 "com/example/beforehand/beforehand/TextPart" "from" "I" (.int p3)) (F3 : Fld Z h0 a1 "com/example/beforehand/beforehand/TextPart" "end" "I" (.int p4)) (F4 : Fld Z h0 a1 "com/example/beforehand/beforehand/TextPart" "after" "Ljava/lang/String;" (.ref a5)) (E5 : Exa Z h0 a5 "java/lang/String") (Fv : Fld Z h0 a5 "java/lang/String" "value" "[B" (.ref t5)) (Fc : Fld Z h0 a5 "java/lang/String" "coder" "B" (.int (0 : Int32))) (V5 : Arv Z h0 t5 k5 .byte (1 : Int32) vs (.int (0 : Int32))) (O0 : Old Z n0 h0) (St : own_St Z w0) :
    MetFree l (⟨"com/example/beforehand/beforehand/TextPart", "length", "()I"⟩ : MethodName) (head1 (Jvm.Cond.code (⟨"com/example/beforehand/beforehand/TextPart", "length", "()I"⟩ : MethodName) prog_40_method_2_code 1 (some .int) :: ws) ({ frames := 2, cells := 0, slots := 0, locals := 26 } : Room)) (fun a U => a = #[(.ref a1)] ∧ Z.Warmed39 U.vm ∧ U.heap = h0) (fun _ _ _ _ _ => True) (fun _ U o U' => ∃ v L, o = .returned v ∧ Q10_1 Z p3 p4 h0 n0 v U'.heap L ∧ FrameEnd U o U' L ({ frames := 2, cells := 0, slots := 0, locals := 26 } : Room).cells ({ frames := 2, cells := 0, slots := 0, locals := 26 } : Room).slots) := by
  refine MetFree.of_bodySF (plainFor_of_name pn_10_1) hisR ?_
  intro p e s m args below meth c s₁ Bd hml0 hP hK
  obtain ⟨rfl, hZ, hh⟩ := hP
  have hx := Bd.exec
  have hby := Bd.bytes
  have hml : c.maxLocals = 1 := hml0
  have hown : s.vm.findClass "com/example/beforehand/beforehand/TextPart" = some m.cls := findClass_of_methodNamed Bd.named
  have hnm := (name_of_methodNamed Bd.named Bd.method).1
  have X0 : Stand p l e ({ frames := 2, cells := 0, slots := 0, locals := 26 } : Room) s m #[(.ref a1)] below meth c s₁ [] 0 0 := Stand.of_body Bd
  have e0 : s₁.heap = h0 := by rw [← hh, Bd.state]; rfl
  have N0 := Fr.nil n0
  refine Goes.via (next := s₁.setTop (mkF m 0 #[.val (.ref a1)] [])) (fun t k => castTop (ef_10_1 m a1) k) ?_
  refine Goes.via (fun t k => XS.aloadN X0.here hx rfl (hb hby d10_1_0) rfl rfl k) ?_
  show Goes p e below (s₁.setTop (mkF m 1 #[.val (.ref a1)] [(.ref a1)])) _
  obtain ⟨T1, X1, e1, st1⟩ := getF X0 hx hZ hown (host := "") (Or.inl (hw _ (List.mem_of_getElem? (i := 51) rfl))) Via.refl e0 F3 (g := (mkF m 1 #[.val (.ref a1)] [(.ref a1)])) rfl rfl (hb hby d10_1_1)
  refine Goes.via st1 ?_
  show Goes p e below (T1.setTop (mkF m 4 #[.val (.ref a1)] [(.int p4)])) _
  refine Goes.via (fun t k => XS.aloadN X1.here hx rfl (hb hby d10_1_4) rfl rfl k) ?_
  show Goes p e below (T1.setTop (mkF m 5 #[.val (.ref a1)] [(.ref a1), (.int p4)])) _
  obtain ⟨T2, X2, e2, st2⟩ := getF X1 hx hZ hown (host := "") (Or.inl (hw _ (List.mem_of_getElem? (i := 49) rfl))) Via.refl e1 F2 (g := (mkF m 5 #[.val (.ref a1)] [(.ref a1), (.int p4)])) rfl rfl (hb hby d10_1_5)
  refine Goes.via st2 ?_
  show Goes p e below (T2.setTop (mkF m 8 #[.val (.ref a1)] [(.int p3), (.int p4)])) _
  refine Goes.via (fun t k => XS.isub X2.here hx rfl (hb hby d10_1_8) rfl k) ?_
  show Goes p e below (T2.setTop (mkF m 9 #[.val (.ref a1)] [(.int (p4 - p3))])) _
  refine Goes.via (fun t k => XS.aloadN X2.here hx rfl (hb hby d10_1_9) rfl rfl k) ?_
  show Goes p e below (T2.setTop (mkF m 10 #[.val (.ref a1)] [(.ref a1), (.int (p4 - p3))])) _
  obtain ⟨T3, X3, e3, st3⟩ := getF X2 hx hZ hown (host := "") (Or.inl (hw _ (List.mem_of_getElem? (i := 53) rfl))) Via.refl e2 F4 (g := (mkF m 10 #[.val (.ref a1)] [(.ref a1), (.int (p4 - p3))])) rfl rfl (hb hby d10_1_10)
  refine Goes.via st3 ?_
  show Goes p e below (T3.setTop (mkF m 13 #[.val (.ref a1)] [(.ref a5), (.int (p4 - p3))])) _
  obtain ⟨cq4, kq4, q4a, q4b, q4c⟩ := isOf hZ e3 E5
  obtain ⟨_, _, ⟨T4, L4, k4, n4⟩, -, X4, ⟨Lc4, hQ4, l4, y4, z4⟩, st4⟩ := X3.virtualBack hx (y := (⟨"java/lang/String", "length", "()I"⟩ : MethodName)) (z := (⟨"java/lang/String", "length", "()I"⟩ : MethodName)) hown (mvT hZ (hw _ (List.mem_of_getElem? (i := 60) rfl))) (mvT hZ (hw _ (List.mem_of_getElem? (i := 61) rfl))) (notFace_of_selects (args := #[]) (mvT hZ (hw _ (List.mem_of_getElem? (i := 63) rfl)))) (mvT hZ (hw _ (List.mem_of_getElem? (i := 63) rfl))) (mvT hZ (hw _ (List.mem_of_getElem? (i := 62) rfl))) (by decide) (backOf (W := 1) (rm11_1 l Z a0 hw [] a5 t5 k5 _ w0 h0 n0 Z0 E5 Fv Fc V5 O0 St) hZ (hw _ (List.mem_of_getElem? (i := 64) rfl)) (hw _ (List.mem_of_getElem? (i := 3) rfl)) (by decide) (by decide)) q4a q4c (g := (mkF m 13 #[.val (.ref a1)] [(.ref a5), (.int (p4 - p3))])) rfl (by rw [hml]; rfl) (Steps.refl _) (argsL := []) (rest := [(.int (p4 - p3))]) (lenOf pd_10_1_0 rfl) rfl (by show 2 * 0 + _ ≤ _; exact Nat.le_of_eq rfl) (hb hby d10_1_13) (fun _ _ => ⟨rfl, e3, (by decide : 0 + 0 ≤ _), (by decide : 0 + 0 ≤ _)⟩)
  dsimp only [Pt.U, Pt.locs, Pt.cells, Pt.slots] at X4 l4 y4 z4 st4 hQ4
  subst l4 y4 z4
  obtain ⟨rfl, N4q, er4⟩ := hQ4
  have e4 : T4.heap = h0 := er4
  have N4 := Fr.app N0 N4q
  refine Goes.via (fun t k => st4.trans k) ?_
  show Goes p e below (T4.setTop (mkF m 16 #[.val (.ref a1)] [(.int (1 : Int32)), (.int (p4 - p3))])) _
  refine Goes.via (fun t k => XS.iadd X4.here hx rfl (hb hby d10_1_16) rfl k) ?_
  show Goes p e below (T4.setTop (mkF m 17 #[.val (.ref a1)] [(.int ((p4 - p3) + (1 : Int32)))])) _
  obtain ⟨fs, hr, hrun, hended, hW, hsame⟩ := X4.leave (v := some (.int ((p4 - p3) + (1 : Int32)))) (fun h => by rw [Bd.returns] at h; cases h)
  refine ⟨_, _, ?_, hrun, hended, _, _, rfl, ?_, ⟨_, rfl⟩, hW, hsame.mono (by decide) (by decide)⟩
  · exact retI X4 hx Bd.returns (hb hby d10_1_17) hr
  · show Q10_1 Z p3 p4 h0 n0 _ T4.heap _
    rw [e4]
    exact ⟨rfl, N4, rfl⟩
theorem d10_2_0 : decode prog_40_method_2_code 0 = .ok (.aload_n 0, 1) := by decide +kernel
theorem d10_2_1 : decode prog_40_method_2_code 1 = .ok (.getfield 17, 3) := by decide +kernel
theorem d10_2_4 : decode prog_40_method_2_code 4 = .ok (.aload_n 0, 1) := by decide +kernel
theorem d10_2_5 : decode prog_40_method_2_code 5 = .ok (.getfield 13, 3) := by decide +kernel
theorem d10_2_8 : decode prog_40_method_2_code 8 = .ok (.isub, 1) := by decide +kernel
theorem d10_2_9 : decode prog_40_method_2_code 9 = .ok (.aload_n 0, 1) := by decide +kernel
theorem d10_2_10 : decode prog_40_method_2_code 10 = .ok (.getfield 20, 3) := by decide +kernel
theorem d10_2_13 : decode prog_40_method_2_code 13 = .ok (.invokevirtual 24, 3) := by decide +kernel
theorem d10_2_16 : decode prog_40_method_2_code 16 = .ok (.iadd, 1) := by decide +kernel
theorem d10_2_17 : decode prog_40_method_2_code 17 = .ok (.ireturn, 1) := by decide +kernel
theorem pn_10_2 : plainName "com/example/beforehand/beforehand/TextPart" = true := by first | (simp [plainName, overriddenIn]; done) | decide +kernel
theorem pd_10_2_0 : parseMethodDescriptor "()I" = some ⟨[], some .int⟩ := by decide +kernel
theorem ef_10_2 (m : MethodId) (x0 : Addr) : entryFrame m #[(.ref x0)] 1 = mkF m 0 #[.val (.ref x0)] [] := by first | (simp [entryFrame, mkF, argsToLocals, Value.category]; done) | rfl
def Q10_2 (Z : State) (p3 p4 : Int32) (h0 : Heap) (n0 : Nat) (v : Option Value) (h : Heap) (L : List Loc) : Prop := v = some (.int ((p4 - p3) + (2 : Int32))) ∧ Fr n0 L ∧ h = h0
set_option maxRecDepth 65536 in
set_option maxHeartbeats 40000000 in
theorem rm10_2 (l : Launch) (Z : State) (a0 : Array Value) (hw : ∀ d ∈ tables_1, d.before a0 Z = true) (ws : List Jvm.Cond) (a1 : Addr) (p3 p4 : Int32) (a5 t5 : Addr) (k5 : ClassId) (vs : List Value) (w0 : Int32) (h0 : Heap) (n0 : Nat) (Z0 : n0 ≤ h0.size) (F2 : Fld Z h0 a1 "com/example/beforehand/beforehand/TextPart" "from" "I" (.int p3)) (F3 : Fld Z h0 a1 "com/example/beforehand/beforehand/TextPart" "end" "I" (.int p4)) (F4 : Fld Z h0 a1 "com/example/beforehand/beforehand/TextPart" "after" "Ljava/lang/String;" (.ref a5)) (E5 : Exa Z h0 a5 "java/lang/String") (Fv : Fld Z h0 a5 "java/lang/String" "value" "[B" (.ref t5)) (Fc : Fld Z h0 a5 "java/lang/String" "coder" "B" (.int (0 : Int32))) (V5 : Arv Z h0 t5 k5 .byte (2 : Int32) vs (.int (0 : Int32))) (O0 : Old Z n0 h0) (St : own_St Z w0) :
    MetFree l (⟨"com/example/beforehand/beforehand/TextPart", "length", "()I"⟩ : MethodName) (head1 (Jvm.Cond.code (⟨"com/example/beforehand/beforehand/TextPart", "length", "()I"⟩ : MethodName) prog_40_method_2_code 1 (some .int) :: ws) ({ frames := 2, cells := 0, slots := 0, locals := 26 } : Room)) (fun a U => a = #[(.ref a1)] ∧ Z.Warmed39 U.vm ∧ U.heap = h0) (fun _ _ _ _ _ => True) (fun _ U o U' => ∃ v L, o = .returned v ∧ Q10_2 Z p3 p4 h0 n0 v U'.heap L ∧ FrameEnd U o U' L ({ frames := 2, cells := 0, slots := 0, locals := 26 } : Room).cells ({ frames := 2, cells := 0, slots := 0, locals := 26 } : Room).slots) := by
  refine MetFree.of_bodySF (plainFor_of_name pn_10_2) hisR ?_
  intro p e s m args below meth c s₁ Bd hml0 hP hK
  obtain ⟨rfl, hZ, hh⟩ := hP
  have hx := Bd.exec
  have hby := Bd.bytes
  have hml : c.maxLocals = 1 := hml0
  have hown : s.vm.findClass "com/example/beforehand/beforehand/TextPart" = some m.cls := findClass_of_methodNamed Bd.named
  have hnm := (name_of_methodNamed Bd.named Bd.method).1
  have X0 : Stand p l e ({ frames := 2, cells := 0, slots := 0, locals := 26 } : Room) s m #[(.ref a1)] below meth c s₁ [] 0 0 := Stand.of_body Bd
  have e0 : s₁.heap = h0 := by rw [← hh, Bd.state]; rfl
  have N0 := Fr.nil n0
  refine Goes.via (next := s₁.setTop (mkF m 0 #[.val (.ref a1)] [])) (fun t k => castTop (ef_10_2 m a1) k) ?_
  refine Goes.via (fun t k => XS.aloadN X0.here hx rfl (hb hby d10_2_0) rfl rfl k) ?_
  show Goes p e below (s₁.setTop (mkF m 1 #[.val (.ref a1)] [(.ref a1)])) _
  obtain ⟨T1, X1, e1, st1⟩ := getF X0 hx hZ hown (host := "") (Or.inl (hw _ (List.mem_of_getElem? (i := 51) rfl))) Via.refl e0 F3 (g := (mkF m 1 #[.val (.ref a1)] [(.ref a1)])) rfl rfl (hb hby d10_2_1)
  refine Goes.via st1 ?_
  show Goes p e below (T1.setTop (mkF m 4 #[.val (.ref a1)] [(.int p4)])) _
  refine Goes.via (fun t k => XS.aloadN X1.here hx rfl (hb hby d10_2_4) rfl rfl k) ?_
  show Goes p e below (T1.setTop (mkF m 5 #[.val (.ref a1)] [(.ref a1), (.int p4)])) _
  obtain ⟨T2, X2, e2, st2⟩ := getF X1 hx hZ hown (host := "") (Or.inl (hw _ (List.mem_of_getElem? (i := 49) rfl))) Via.refl e1 F2 (g := (mkF m 5 #[.val (.ref a1)] [(.ref a1), (.int p4)])) rfl rfl (hb hby d10_2_5)
  refine Goes.via st2 ?_
  show Goes p e below (T2.setTop (mkF m 8 #[.val (.ref a1)] [(.int p3), (.int p4)])) _
  refine Goes.via (fun t k => XS.isub X2.here hx rfl (hb hby d10_2_8) rfl k) ?_
  show Goes p e below (T2.setTop (mkF m 9 #[.val (.ref a1)] [(.int (p4 - p3))])) _
  refine Goes.via (fun t k => XS.aloadN X2.here hx rfl (hb hby d10_2_9) rfl rfl k) ?_
  show Goes p e below (T2.setTop (mkF m 10 #[.val (.ref a1)] [(.ref a1), (.int (p4 - p3))])) _
  obtain ⟨T3, X3, e3, st3⟩ := getF X2 hx hZ hown (host := "") (Or.inl (hw _ (List.mem_of_getElem? (i := 53) rfl))) Via.refl e2 F4 (g := (mkF m 10 #[.val (.ref a1)] [(.ref a1), (.int (p4 - p3))])) rfl rfl (hb hby d10_2_10)
  refine Goes.via st3 ?_
  show Goes p e below (T3.setTop (mkF m 13 #[.val (.ref a1)] [(.ref a5), (.int (p4 - p3))])) _
  obtain ⟨cq4, kq4, q4a, q4b, q4c⟩ := isOf hZ e3 E5
  obtain ⟨_, _, ⟨T4, L4, k4, n4⟩, -, X4, ⟨Lc4, hQ4, l4, y4, z4⟩, st4⟩ := X3.virtualBack hx (y := (⟨"java/lang/String", "length", "()I"⟩ : MethodName)) (z := (⟨"java/lang/String", "length", "()I"⟩ : MethodName)) hown (mvT hZ (hw _ (List.mem_of_getElem? (i := 60) rfl))) (mvT hZ (hw _ (List.mem_of_getElem? (i := 61) rfl))) (notFace_of_selects (args := #[]) (mvT hZ (hw _ (List.mem_of_getElem? (i := 63) rfl)))) (mvT hZ (hw _ (List.mem_of_getElem? (i := 63) rfl))) (mvT hZ (hw _ (List.mem_of_getElem? (i := 62) rfl))) (by decide) (backOf (W := 1) (rm11_2 l Z a0 hw [] a5 t5 k5 _ w0 h0 n0 Z0 E5 Fv Fc V5 O0 St) hZ (hw _ (List.mem_of_getElem? (i := 64) rfl)) (hw _ (List.mem_of_getElem? (i := 3) rfl)) (by decide) (by decide)) q4a q4c (g := (mkF m 13 #[.val (.ref a1)] [(.ref a5), (.int (p4 - p3))])) rfl (by rw [hml]; rfl) (Steps.refl _) (argsL := []) (rest := [(.int (p4 - p3))]) (lenOf pd_10_2_0 rfl) rfl (by show 2 * 0 + _ ≤ _; exact Nat.le_of_eq rfl) (hb hby d10_2_13) (fun _ _ => ⟨rfl, e3, (by decide : 0 + 0 ≤ _), (by decide : 0 + 0 ≤ _)⟩)
  dsimp only [Pt.U, Pt.locs, Pt.cells, Pt.slots] at X4 l4 y4 z4 st4 hQ4
  subst l4 y4 z4
  obtain ⟨rfl, N4q, er4⟩ := hQ4
  have e4 : T4.heap = h0 := er4
  have N4 := Fr.app N0 N4q
  refine Goes.via (fun t k => st4.trans k) ?_
  show Goes p e below (T4.setTop (mkF m 16 #[.val (.ref a1)] [(.int (2 : Int32)), (.int (p4 - p3))])) _
  refine Goes.via (fun t k => XS.iadd X4.here hx rfl (hb hby d10_2_16) rfl k) ?_
  show Goes p e below (T4.setTop (mkF m 17 #[.val (.ref a1)] [(.int ((p4 - p3) + (2 : Int32)))])) _
  obtain ⟨fs, hr, hrun, hended, hW, hsame⟩ := X4.leave (v := some (.int ((p4 - p3) + (2 : Int32)))) (fun h => by rw [Bd.returns] at h; cases h)
  refine ⟨_, _, ?_, hrun, hended, _, _, rfl, ?_, ⟨_, rfl⟩, hW, hsame.mono (by decide) (by decide)⟩
  · exact retI X4 hx Bd.returns (hb hby d10_2_17) hr
  · show Q10_2 Z p3 p4 h0 n0 _ T4.heap _
    rw [e4]
    exact ⟨rfl, N4, rfl⟩
theorem d10_3_0 : decode prog_40_method_2_code 0 = .ok (.aload_n 0, 1) := by decide +kernel
theorem d10_3_1 : decode prog_40_method_2_code 1 = .ok (.getfield 17, 3) := by decide +kernel
theorem d10_3_4 : decode prog_40_method_2_code 4 = .ok (.aload_n 0, 1) := by decide +kernel
theorem d10_3_5 : decode prog_40_method_2_code 5 = .ok (.getfield 13, 3) := by decide +kernel
theorem d10_3_8 : decode prog_40_method_2_code 8 = .ok (.isub, 1) := by decide +kernel
theorem d10_3_9 : decode prog_40_method_2_code 9 = .ok (.aload_n 0, 1) := by decide +kernel
theorem d10_3_10 : decode prog_40_method_2_code 10 = .ok (.getfield 20, 3) := by decide +kernel
theorem d10_3_13 : decode prog_40_method_2_code 13 = .ok (.invokevirtual 24, 3) := by decide +kernel
theorem d10_3_16 : decode prog_40_method_2_code 16 = .ok (.iadd, 1) := by decide +kernel
theorem d10_3_17 : decode prog_40_method_2_code 17 = .ok (.ireturn, 1) := by decide +kernel
theorem pn_10_3 : plainName "com/example/beforehand/beforehand/TextPart" = true := by first | (simp [plainName, overriddenIn]; done) | decide +kernel
theorem pd_10_3_0 : parseMethodDescriptor "()I" = some ⟨[], some .int⟩ := by decide +kernel
theorem ef_10_3 (m : MethodId) (x0 : Addr) : entryFrame m #[(.ref x0)] 1 = mkF m 0 #[.val (.ref x0)] [] := by first | (simp [entryFrame, mkF, argsToLocals, Value.category]; done) | rfl
def Q10_3 (Z : State) (p3 p4 : Int32) (h0 : Heap) (n0 : Nat) (v : Option Value) (h : Heap) (L : List Loc) : Prop := v = some (.int ((p4 - p3) + (3 : Int32))) ∧ Fr n0 L ∧ h = h0
set_option maxRecDepth 65536 in
set_option maxHeartbeats 40000000 in
theorem rm10_3 (l : Launch) (Z : State) (a0 : Array Value) (hw : ∀ d ∈ tables_1, d.before a0 Z = true) (ws : List Jvm.Cond) (a1 : Addr) (p3 p4 : Int32) (a5 t5 : Addr) (k5 : ClassId) (vs : List Value) (w0 : Int32) (h0 : Heap) (n0 : Nat) (Z0 : n0 ≤ h0.size) (F2 : Fld Z h0 a1 "com/example/beforehand/beforehand/TextPart" "from" "I" (.int p3)) (F3 : Fld Z h0 a1 "com/example/beforehand/beforehand/TextPart" "end" "I" (.int p4)) (F4 : Fld Z h0 a1 "com/example/beforehand/beforehand/TextPart" "after" "Ljava/lang/String;" (.ref a5)) (E5 : Exa Z h0 a5 "java/lang/String") (Fv : Fld Z h0 a5 "java/lang/String" "value" "[B" (.ref t5)) (Fc : Fld Z h0 a5 "java/lang/String" "coder" "B" (.int (0 : Int32))) (V5 : Arv Z h0 t5 k5 .byte (3 : Int32) vs (.int (0 : Int32))) (O0 : Old Z n0 h0) (St : own_St Z w0) :
    MetFree l (⟨"com/example/beforehand/beforehand/TextPart", "length", "()I"⟩ : MethodName) (head1 (Jvm.Cond.code (⟨"com/example/beforehand/beforehand/TextPart", "length", "()I"⟩ : MethodName) prog_40_method_2_code 1 (some .int) :: ws) ({ frames := 2, cells := 0, slots := 0, locals := 26 } : Room)) (fun a U => a = #[(.ref a1)] ∧ Z.Warmed39 U.vm ∧ U.heap = h0) (fun _ _ _ _ _ => True) (fun _ U o U' => ∃ v L, o = .returned v ∧ Q10_3 Z p3 p4 h0 n0 v U'.heap L ∧ FrameEnd U o U' L ({ frames := 2, cells := 0, slots := 0, locals := 26 } : Room).cells ({ frames := 2, cells := 0, slots := 0, locals := 26 } : Room).slots) := by
  refine MetFree.of_bodySF (plainFor_of_name pn_10_3) hisR ?_
  intro p e s m args below meth c s₁ Bd hml0 hP hK
  obtain ⟨rfl, hZ, hh⟩ := hP
  have hx := Bd.exec
  have hby := Bd.bytes
  have hml : c.maxLocals = 1 := hml0
  have hown : s.vm.findClass "com/example/beforehand/beforehand/TextPart" = some m.cls := findClass_of_methodNamed Bd.named
  have hnm := (name_of_methodNamed Bd.named Bd.method).1
  have X0 : Stand p l e ({ frames := 2, cells := 0, slots := 0, locals := 26 } : Room) s m #[(.ref a1)] below meth c s₁ [] 0 0 := Stand.of_body Bd
  have e0 : s₁.heap = h0 := by rw [← hh, Bd.state]; rfl
  have N0 := Fr.nil n0
  refine Goes.via (next := s₁.setTop (mkF m 0 #[.val (.ref a1)] [])) (fun t k => castTop (ef_10_3 m a1) k) ?_
  refine Goes.via (fun t k => XS.aloadN X0.here hx rfl (hb hby d10_3_0) rfl rfl k) ?_
  show Goes p e below (s₁.setTop (mkF m 1 #[.val (.ref a1)] [(.ref a1)])) _
  obtain ⟨T1, X1, e1, st1⟩ := getF X0 hx hZ hown (host := "") (Or.inl (hw _ (List.mem_of_getElem? (i := 51) rfl))) Via.refl e0 F3 (g := (mkF m 1 #[.val (.ref a1)] [(.ref a1)])) rfl rfl (hb hby d10_3_1)
  refine Goes.via st1 ?_
  show Goes p e below (T1.setTop (mkF m 4 #[.val (.ref a1)] [(.int p4)])) _
  refine Goes.via (fun t k => XS.aloadN X1.here hx rfl (hb hby d10_3_4) rfl rfl k) ?_
  show Goes p e below (T1.setTop (mkF m 5 #[.val (.ref a1)] [(.ref a1), (.int p4)])) _
  obtain ⟨T2, X2, e2, st2⟩ := getF X1 hx hZ hown (host := "") (Or.inl (hw _ (List.mem_of_getElem? (i := 49) rfl))) Via.refl e1 F2 (g := (mkF m 5 #[.val (.ref a1)] [(.ref a1), (.int p4)])) rfl rfl (hb hby d10_3_5)
  refine Goes.via st2 ?_
  show Goes p e below (T2.setTop (mkF m 8 #[.val (.ref a1)] [(.int p3), (.int p4)])) _
  refine Goes.via (fun t k => XS.isub X2.here hx rfl (hb hby d10_3_8) rfl k) ?_
  show Goes p e below (T2.setTop (mkF m 9 #[.val (.ref a1)] [(.int (p4 - p3))])) _
  refine Goes.via (fun t k => XS.aloadN X2.here hx rfl (hb hby d10_3_9) rfl rfl k) ?_
  show Goes p e below (T2.setTop (mkF m 10 #[.val (.ref a1)] [(.ref a1), (.int (p4 - p3))])) _
  obtain ⟨T3, X3, e3, st3⟩ := getF X2 hx hZ hown (host := "") (Or.inl (hw _ (List.mem_of_getElem? (i := 53) rfl))) Via.refl e2 F4 (g := (mkF m 10 #[.val (.ref a1)] [(.ref a1), (.int (p4 - p3))])) rfl rfl (hb hby d10_3_10)
  refine Goes.via st3 ?_
  show Goes p e below (T3.setTop (mkF m 13 #[.val (.ref a1)] [(.ref a5), (.int (p4 - p3))])) _
  obtain ⟨cq4, kq4, q4a, q4b, q4c⟩ := isOf hZ e3 E5
  obtain ⟨_, _, ⟨T4, L4, k4, n4⟩, -, X4, ⟨Lc4, hQ4, l4, y4, z4⟩, st4⟩ := X3.virtualBack hx (y := (⟨"java/lang/String", "length", "()I"⟩ : MethodName)) (z := (⟨"java/lang/String", "length", "()I"⟩ : MethodName)) hown (mvT hZ (hw _ (List.mem_of_getElem? (i := 60) rfl))) (mvT hZ (hw _ (List.mem_of_getElem? (i := 61) rfl))) (notFace_of_selects (args := #[]) (mvT hZ (hw _ (List.mem_of_getElem? (i := 63) rfl)))) (mvT hZ (hw _ (List.mem_of_getElem? (i := 63) rfl))) (mvT hZ (hw _ (List.mem_of_getElem? (i := 62) rfl))) (by decide) (backOf (W := 1) (rm11_3 l Z a0 hw [] a5 t5 k5 _ w0 h0 n0 Z0 E5 Fv Fc V5 O0 St) hZ (hw _ (List.mem_of_getElem? (i := 64) rfl)) (hw _ (List.mem_of_getElem? (i := 3) rfl)) (by decide) (by decide)) q4a q4c (g := (mkF m 13 #[.val (.ref a1)] [(.ref a5), (.int (p4 - p3))])) rfl (by rw [hml]; rfl) (Steps.refl _) (argsL := []) (rest := [(.int (p4 - p3))]) (lenOf pd_10_3_0 rfl) rfl (by show 2 * 0 + _ ≤ _; exact Nat.le_of_eq rfl) (hb hby d10_3_13) (fun _ _ => ⟨rfl, e3, (by decide : 0 + 0 ≤ _), (by decide : 0 + 0 ≤ _)⟩)
  dsimp only [Pt.U, Pt.locs, Pt.cells, Pt.slots] at X4 l4 y4 z4 st4 hQ4
  subst l4 y4 z4
  obtain ⟨rfl, N4q, er4⟩ := hQ4
  have e4 : T4.heap = h0 := er4
  have N4 := Fr.app N0 N4q
  refine Goes.via (fun t k => st4.trans k) ?_
  show Goes p e below (T4.setTop (mkF m 16 #[.val (.ref a1)] [(.int (3 : Int32)), (.int (p4 - p3))])) _
  refine Goes.via (fun t k => XS.iadd X4.here hx rfl (hb hby d10_3_16) rfl k) ?_
  show Goes p e below (T4.setTop (mkF m 17 #[.val (.ref a1)] [(.int ((p4 - p3) + (3 : Int32)))])) _
  obtain ⟨fs, hr, hrun, hended, hW, hsame⟩ := X4.leave (v := some (.int ((p4 - p3) + (3 : Int32)))) (fun h => by rw [Bd.returns] at h; cases h)
  refine ⟨_, _, ?_, hrun, hended, _, _, rfl, ?_, ⟨_, rfl⟩, hW, hsame.mono (by decide) (by decide)⟩
  · exact retI X4 hx Bd.returns (hb hby d10_3_17) hr
  · show Q10_3 Z p3 p4 h0 n0 _ T4.heap _
    rw [e4]
    exact ⟨rfl, N4, rfl⟩
theorem own_four (x : Int32) : ((x &&& (2147483647 : Int32)) % (4 : Int32)) = 0 ∨ ((x &&& (2147483647 : Int32)) % (4 : Int32)) = 1 ∨ ((x &&& (2147483647 : Int32)) % (4 : Int32)) = 2 ∨ ((x &&& (2147483647 : Int32)) % (4 : Int32)) = 3 := by
  have a1 := c_mask x 2147483647 31 (by decide) (by decide)
  have a2 := (c_irem (x &&& 2147483647) 4 4 (by decide)).1
  have hp : ((2 ^ 31 : Nat) : Int) = 2147483648 := by decide
  rw [hp] at a1
  have a3 := a2 (by omega)
  simp only [← Int32.toInt_inj, a3, show (0 : Int32).toInt = 0 from by decide, show (1 : Int32).toInt = 1 from by decide, show (2 : Int32).toInt = 2 from by decide, show (3 : Int32).toInt = 3 from by decide]
  omega
theorem own_nz (x : Int32) : ¬ ((7 : Int32) - ((x &&& (2147483647 : Int32)) % (7 : Int32))) = 0 := by
  have a1 := c_mask x 2147483647 31 (by decide) (by decide)
  have a2 := (c_irem (x &&& 2147483647) 7 7 (by decide)).1
  have hp : ((2 ^ 31 : Nat) : Int) = 2147483648 := by decide
  rw [hp] at a1
  have a3 := a2 (by omega)
  have a4 := c_isub 7 ((x &&& (2147483647 : Int32)) % (7 : Int32))
  rw [show (7 : Int32).toInt = 7 from by decide] at a4
  intro q
  rw [q, show (0 : Int32).toInt = 0 from by decide] at a4
  omega
theorem pn_0 : plainName "com/example/beforehand/beforehand/TextPartLengthPinLaw" = true := by first | (simp [plainName, overriddenIn]; done) | decide +kernel
theorem pd_0_0 : parseMethodDescriptor "([C)V" = some ⟨[(.array .char)], none⟩ := by decide +kernel
theorem pd_0_1 : parseMethodDescriptor "(II)Ljava/lang/String;" = some ⟨[.int, .int], some (.object "java/lang/String")⟩ := by decide +kernel
theorem pd_0_2 : parseMethodDescriptor "(Ljava/lang/CharSequence;IILjava/lang/String;)V" = some ⟨[(.object "java/lang/CharSequence"), .int, .int, (.object "java/lang/String")], none⟩ := by decide +kernel
theorem pd_0_3 : parseMethodDescriptor "()I" = some ⟨[], some .int⟩ := by decide +kernel
theorem ef_0 (m : MethodId) (x0 : Int32) (x1 : Int32) (x2 : Int32) (x3 : Int32) : entryFrame m #[(.int x0), (.int x1), (.int x2), (.int x3)] maxLocals = mkF m 0 #[.val (.int x0), .val (.int x1), .val (.int x2), .val (.int x3), .unset, .unset, .unset, .unset, .unset, .unset, .unset, .unset] [] := by first | (simp [entryFrame, mkF, argsToLocals, Value.category, maxLocals]; done) | rfl
def Q0 (Z : State) (h0 : Heap) (n0 : Nat) (v : Option Value) (h : Heap) (vm : Vm) (L : List Loc) : Prop := v = some (.int 1) ∧ Fr n0 L
set_option maxRecDepth 65536 in
set_option maxHeartbeats 40000000 in
theorem rm0 (l : Launch) (Z : State) (a0 : Array Value) (hw : ∀ d ∈ tables_1, d.before a0 Z = true) (ws : List Jvm.Cond) (p1 : Int32) (p2 : Int32) (p3 : Int32) (p4 : Int32) (w0 : Int32) (h0 : Heap) (n0 : Nat) (Z0 : n0 ≤ h0.size) (O0 : Old Z n0 h0) (St : own_St Z w0) (hcH : Jvm.Lit.constHeld Z "java/lang/String" 7) (hcw : Jvm.Lit.compactW.before a0 Z = true) :
    MetFree l x (head1 (Jvm.Cond.code x code maxLocals ret :: ws) room_1) (fun a U => a = #[(.int p1), (.int p2), (.int p3), (.int p4)] ∧ Z.Warmed39 U.vm ∧ U.heap = h0 ∧ IB Z U.vm []) (fun _ _ _ _ _ => True) (fun _ U o U' => ∃ v L, o = .returned v ∧ Q0 Z  h0 n0 v U'.heap U'.vm L ∧ ReturnedEndW U o U' L room_1.cells room_1.slots) := by
  refine MetFree.of_bodySF (plainFor_of_name pn_0) hisR ?_
  intro p e s m args below meth c s₁ Bd hml0 hP hK
  obtain ⟨rfl, hZ, hh, hI⟩ := hP
  have hx := Bd.exec
  have hby := Bd.bytes
  have hml : c.maxLocals = 12 := hml0
  have hown : s.vm.findClass "com/example/beforehand/beforehand/TextPartLengthPinLaw" = some m.cls := findClass_of_methodNamed Bd.named
  have hnm := (name_of_methodNamed Bd.named Bd.method).1
  have X0 : Stand p l e room_1 (s.setVm s.vm) m #[(.int p1), (.int p2), (.int p3), (.int p4)] below meth c s₁ [] 0 0 := Stand.of_body Bd
  have e0 : s₁.heap = h0 := by rw [← hh, Bd.state]; rfl
  have N0 := Fr.nil n0
  have hS : s.Since s.vm 0 := (State.WarmedH.refl s).since 0
  have hk : 0 ≤ h0.size := Nat.zero_le _
  refine Goes.via (next := s₁.setTop (mkF m 0 #[.val (.int p1), .val (.int p2), .val (.int p3), .val (.int p4), .unset, .unset, .unset, .unset, .unset, .unset, .unset, .unset] [])) (fun t k => castTop (ef_0 m p1 p2 p3 p4) k) ?_
  refine Goes.via (fun t k => XS.bipush X0.here hx rfl (hb hby at_0) k) ?_
  show Goes p e below (s₁.setTop (mkF m 2 #[.val (.int p1), .val (.int p2), .val (.int p3), .val (.int p4), .unset, .unset, .unset, .unset, .unset, .unset, .unset, .unset] [(.int (6 : Int32))])) _
  obtain ⟨T1, h1, ka1, X1, e1, E1, A1, st1⟩ := newP X0 hx hZ (hw _ (List.mem_of_getElem? (i := 0) rfl)) e0 (g := (mkF m 2 #[.val (.int p1), .val (.int p2), .val (.int p3), .val (.int p4), .unset, .unset, .unset, .unset, .unset, .unset, .unset, .unset] [(.int (6 : Int32))])) rfl (hb hby at_2) rfl (by decide) (cap := 6) (by decide) (by decide) (by decide) (by decide)
  obtain ⟨b1, g1⟩ : ∃ z, z = h0.size := ⟨_, rfl⟩
  rw [← g1] at A1 st1
  have ge_b1 : n0 ≤ b1 := Nat.le_trans Z0 (Nat.le_of_eq g1.symm)
  have sz_b1 : h0.size ≤ b1 := Nat.le_trans (Keep.refl h0 []).1 (Nat.le_of_eq g1.symm)
  have K1 : Keep h0 h1 [] := (Keep.refl h0 []).ext E1
  have Z1 : n0 ≤ h1.size := Nat.le_trans Z0 E1.1
  have O1 := O0.ext E1
  have hk := Nat.le_trans hk E1.1
  have V1 : Arv Z h1 b1 ka1 .char (6 : Int32) [(.int (0 : Int32)), (.int (0 : Int32)), (.int (0 : Int32)), (.int (0 : Int32)), (.int (0 : Int32)), (.int (0 : Int32))] (.int (0 : Int32)) := (Arv.new A1 (by decide)).pad (pad_rep [] (.int (0 : Int32)) 6)
  refine Goes.via st1 ?_
  show Goes p e below (T1.setTop (mkF m 4 #[.val (.int p1), .val (.int p2), .val (.int p3), .val (.int p4), .unset, .unset, .unset, .unset, .unset, .unset, .unset, .unset] [(.ref b1)])) _
  refine Goes.via (fun t k => XS.astore X1.here hx rfl (hb hby at_4) rfl rfl (l' := #[.val (.int p1), .val (.int p2), .val (.int p3), .val (.int p4), .val (.ref b1), .unset, .unset, .unset, .unset, .unset, .unset, .unset]) rfl k) ?_
  show Goes p e below (T1.setTop (mkF m 6 #[.val (.int p1), .val (.int p2), .val (.int p3), .val (.int p4), .val (.ref b1), .unset, .unset, .unset, .unset, .unset, .unset, .unset] [])) _
  refine Goes.via (fun t k => XS.aload X1.here hx rfl (hb hby at_6) rfl rfl k) ?_
  show Goes p e below (T1.setTop (mkF m 8 #[.val (.int p1), .val (.int p2), .val (.int p3), .val (.int p4), .val (.ref b1), .unset, .unset, .unset, .unset, .unset, .unset, .unset] [(.ref b1)])) _
  refine Goes.via (fun t k => XS.iconst X1.here hx rfl (hb hby at_8) k) ?_
  show Goes p e below (T1.setTop (mkF m 9 #[.val (.int p1), .val (.int p2), .val (.int p3), .val (.int p4), .val (.ref b1), .unset, .unset, .unset, .unset, .unset, .unset, .unset] [(.int (0 : Int32)), (.ref b1)])) _
  refine Goes.via (fun t k => XS.iloadN X1.here hx rfl (hb hby at_9) rfl k) ?_
  show Goes p e below (T1.setTop (mkF m 10 #[.val (.int p1), .val (.int p2), .val (.int p3), .val (.int p4), .val (.ref b1), .unset, .unset, .unset, .unset, .unset, .unset, .unset] [(.int p4), (.int (0 : Int32)), (.ref b1)])) _
  refine Goes.via (fun t k => XS.sipush X1.here hx rfl (hb hby at_10) k) ?_
  show Goes p e below (T1.setTop (mkF m 13 #[.val (.int p1), .val (.int p2), .val (.int p3), .val (.int p4), .val (.ref b1), .unset, .unset, .unset, .unset, .unset, .unset, .unset] [(.int (255 : Int32)), (.int p4), (.int (0 : Int32)), (.ref b1)])) _
  refine Goes.via (fun t k => XS.iand X1.here hx rfl (hb hby at_13) rfl k) ?_
  show Goes p e below (T1.setTop (mkF m 14 #[.val (.int p1), .val (.int p2), .val (.int p3), .val (.int p4), .val (.ref b1), .unset, .unset, .unset, .unset, .unset, .unset, .unset] [(.int (p4 &&& (255 : Int32))), (.int (0 : Int32)), (.ref b1)])) _
  refine Goes.via (fun t k => XS.i2c X1.here hx rfl (hb hby at_14) rfl k) ?_
  show Goes p e below (T1.setTop (mkF m 15 #[.val (.int p1), .val (.int p2), .val (.int p3), .val (.int p4), .val (.ref b1), .unset, .unset, .unset, .unset, .unset, .unset, .unset] [(.int ((p4 &&& (255 : Int32)).toUInt32.toUInt16.toUInt32.toInt32)), (.int (0 : Int32)), (.ref b1)])) _
  obtain ⟨cl2, Ar2, qa2, Sa2, Na2, Ha2, Ga2⟩ := V1
  have hin2 : ¬ ((0 : Int32) < 0 ∨ cl2.slots.size ≤ ((0 : Int32)).toNatClampNeg) := inb_of Sa2 ⟨by decide, by decide⟩
  obtain ⟨T2, h2, X2, e2, W2, st2⟩ := stC X1 hx hZ e1 Ar2 (j := (0 : Int32)) hin2 (g := (mkF m 15 #[.val (.int p1), .val (.int p2), .val (.int p3), .val (.int p4), .val (.ref b1), .unset, .unset, .unset, .unset, .unset, .unset, .unset] [(.int ((p4 &&& (255 : Int32)).toUInt32.toUInt16.toUInt32.toInt32)), (.int (0 : Int32)), (.ref b1)])) rfl rfl (hb hby at_15)
  have V2 : Arv Z h2 b1 ka1 .char (6 : Int32) [(.int (nar .char ((p4 &&& (255 : Int32)).toUInt32.toUInt16.toUInt32.toInt32))), (.int (0 : Int32)), (.int (0 : Int32)), (.int (0 : Int32)), (.int (0 : Int32)), (.int (0 : Int32))] (.int (0 : Int32)) := Arv.set Ar2 qa2 Sa2 Na2 Ha2 Ga2 (fits_nar_char _) W2 0 rfl (Nat.le_of_ble_eq_true rfl)
  have K2 : Keep h0 h2 [] := K1.wr W2 (Or.inr sz_b1)
  have Z2 : n0 ≤ h2.size := Nat.le_trans Z1 (Keep.of_wr W2).1
  have N2 := Fr.snoc X2 N0 ge_b1
  have O2 := O1.wr W2 ge_b1
  have hk := Nat.le_trans hk (Keep.of_wr W2).1
  refine Goes.via st2 ?_
  show Goes p e below (T2.setTop (mkF m 16 #[.val (.int p1), .val (.int p2), .val (.int p3), .val (.int p4), .val (.ref b1), .unset, .unset, .unset, .unset, .unset, .unset, .unset] [])) _
  refine Goes.via (fun t k => XS.aload X2.here hx rfl (hb hby at_16) rfl rfl k) ?_
  show Goes p e below (T2.setTop (mkF m 18 #[.val (.int p1), .val (.int p2), .val (.int p3), .val (.int p4), .val (.ref b1), .unset, .unset, .unset, .unset, .unset, .unset, .unset] [(.ref b1)])) _
  refine Goes.via (fun t k => XS.iconst X2.here hx rfl (hb hby at_18) k) ?_
  show Goes p e below (T2.setTop (mkF m 19 #[.val (.int p1), .val (.int p2), .val (.int p3), .val (.int p4), .val (.ref b1), .unset, .unset, .unset, .unset, .unset, .unset, .unset] [(.int (1 : Int32)), (.ref b1)])) _
  refine Goes.via (fun t k => XS.iloadN X2.here hx rfl (hb hby at_19) rfl k) ?_
  show Goes p e below (T2.setTop (mkF m 20 #[.val (.int p1), .val (.int p2), .val (.int p3), .val (.int p4), .val (.ref b1), .unset, .unset, .unset, .unset, .unset, .unset, .unset] [(.int p4), (.int (1 : Int32)), (.ref b1)])) _
  refine Goes.via (fun t k => XS.bipush X2.here hx rfl (hb hby at_20) k) ?_
  show Goes p e below (T2.setTop (mkF m 22 #[.val (.int p1), .val (.int p2), .val (.int p3), .val (.int p4), .val (.ref b1), .unset, .unset, .unset, .unset, .unset, .unset, .unset] [(.int (8 : Int32)), (.int p4), (.int (1 : Int32)), (.ref b1)])) _
  refine Goes.via (fun t k => XS.iushr X2.here hx rfl (hb hby at_22) rfl k) ?_
  show Goes p e below (T2.setTop (mkF m 23 #[.val (.int p1), .val (.int p2), .val (.int p3), .val (.int p4), .val (.ref b1), .unset, .unset, .unset, .unset, .unset, .unset, .unset] [(.int ((p4.toUInt32 >>> ((8 : Int32) &&& 31).toUInt32).toInt32)), (.int (1 : Int32)), (.ref b1)])) _
  refine Goes.via (fun t k => XS.sipush X2.here hx rfl (hb hby at_23) k) ?_
  show Goes p e below (T2.setTop (mkF m 26 #[.val (.int p1), .val (.int p2), .val (.int p3), .val (.int p4), .val (.ref b1), .unset, .unset, .unset, .unset, .unset, .unset, .unset] [(.int (255 : Int32)), (.int ((p4.toUInt32 >>> ((8 : Int32) &&& 31).toUInt32).toInt32)), (.int (1 : Int32)), (.ref b1)])) _
  refine Goes.via (fun t k => XS.iand X2.here hx rfl (hb hby at_26) rfl k) ?_
  show Goes p e below (T2.setTop (mkF m 27 #[.val (.int p1), .val (.int p2), .val (.int p3), .val (.int p4), .val (.ref b1), .unset, .unset, .unset, .unset, .unset, .unset, .unset] [(.int (((p4.toUInt32 >>> ((8 : Int32) &&& 31).toUInt32).toInt32) &&& (255 : Int32))), (.int (1 : Int32)), (.ref b1)])) _
  refine Goes.via (fun t k => XS.i2c X2.here hx rfl (hb hby at_27) rfl k) ?_
  show Goes p e below (T2.setTop (mkF m 28 #[.val (.int p1), .val (.int p2), .val (.int p3), .val (.int p4), .val (.ref b1), .unset, .unset, .unset, .unset, .unset, .unset, .unset] [(.int ((((p4.toUInt32 >>> ((8 : Int32) &&& 31).toUInt32).toInt32) &&& (255 : Int32)).toUInt32.toUInt16.toUInt32.toInt32)), (.int (1 : Int32)), (.ref b1)])) _
  obtain ⟨cl3, Ar3, qa3, Sa3, Na3, Ha3, Ga3⟩ := V2
  have hin3 : ¬ ((1 : Int32) < 0 ∨ cl3.slots.size ≤ ((1 : Int32)).toNatClampNeg) := inb_of Sa3 ⟨by decide, by decide⟩
  obtain ⟨T3, h3, X3, e3, W3, st3⟩ := stC X2 hx hZ e2 Ar3 (j := (1 : Int32)) hin3 (g := (mkF m 28 #[.val (.int p1), .val (.int p2), .val (.int p3), .val (.int p4), .val (.ref b1), .unset, .unset, .unset, .unset, .unset, .unset, .unset] [(.int ((((p4.toUInt32 >>> ((8 : Int32) &&& 31).toUInt32).toInt32) &&& (255 : Int32)).toUInt32.toUInt16.toUInt32.toInt32)), (.int (1 : Int32)), (.ref b1)])) rfl rfl (hb hby at_28)
  have V3 : Arv Z h3 b1 ka1 .char (6 : Int32) [(.int (nar .char ((p4 &&& (255 : Int32)).toUInt32.toUInt16.toUInt32.toInt32))), (.int (nar .char ((((p4.toUInt32 >>> ((8 : Int32) &&& 31).toUInt32).toInt32) &&& (255 : Int32)).toUInt32.toUInt16.toUInt32.toInt32))), (.int (0 : Int32)), (.int (0 : Int32)), (.int (0 : Int32)), (.int (0 : Int32))] (.int (0 : Int32)) := Arv.set Ar3 qa3 Sa3 Na3 Ha3 Ga3 (fits_nar_char _) W3 1 rfl (Nat.le_of_ble_eq_true rfl)
  have K3 : Keep h0 h3 [] := K2.wr W3 (Or.inr sz_b1)
  have Z3 : n0 ≤ h3.size := Nat.le_trans Z2 (Keep.of_wr W3).1
  have N3 := Fr.snoc X3 N2 ge_b1
  have O3 := O2.wr W3 ge_b1
  have hk := Nat.le_trans hk (Keep.of_wr W3).1
  refine Goes.via st3 ?_
  show Goes p e below (T3.setTop (mkF m 29 #[.val (.int p1), .val (.int p2), .val (.int p3), .val (.int p4), .val (.ref b1), .unset, .unset, .unset, .unset, .unset, .unset, .unset] [])) _
  refine Goes.via (fun t k => XS.aload X3.here hx rfl (hb hby at_29) rfl rfl k) ?_
  show Goes p e below (T3.setTop (mkF m 31 #[.val (.int p1), .val (.int p2), .val (.int p3), .val (.int p4), .val (.ref b1), .unset, .unset, .unset, .unset, .unset, .unset, .unset] [(.ref b1)])) _
  refine Goes.via (fun t k => XS.iconst X3.here hx rfl (hb hby at_31) k) ?_
  show Goes p e below (T3.setTop (mkF m 32 #[.val (.int p1), .val (.int p2), .val (.int p3), .val (.int p4), .val (.ref b1), .unset, .unset, .unset, .unset, .unset, .unset, .unset] [(.int (2 : Int32)), (.ref b1)])) _
  refine Goes.via (fun t k => XS.iloadN X3.here hx rfl (hb hby at_32) rfl k) ?_
  show Goes p e below (T3.setTop (mkF m 33 #[.val (.int p1), .val (.int p2), .val (.int p3), .val (.int p4), .val (.ref b1), .unset, .unset, .unset, .unset, .unset, .unset, .unset] [(.int p4), (.int (2 : Int32)), (.ref b1)])) _
  refine Goes.via (fun t k => XS.bipush X3.here hx rfl (hb hby at_33) k) ?_
  show Goes p e below (T3.setTop (mkF m 35 #[.val (.int p1), .val (.int p2), .val (.int p3), .val (.int p4), .val (.ref b1), .unset, .unset, .unset, .unset, .unset, .unset, .unset] [(.int (16 : Int32)), (.int p4), (.int (2 : Int32)), (.ref b1)])) _
  refine Goes.via (fun t k => XS.iushr X3.here hx rfl (hb hby at_35) rfl k) ?_
  show Goes p e below (T3.setTop (mkF m 36 #[.val (.int p1), .val (.int p2), .val (.int p3), .val (.int p4), .val (.ref b1), .unset, .unset, .unset, .unset, .unset, .unset, .unset] [(.int ((p4.toUInt32 >>> ((16 : Int32) &&& 31).toUInt32).toInt32)), (.int (2 : Int32)), (.ref b1)])) _
  refine Goes.via (fun t k => XS.sipush X3.here hx rfl (hb hby at_36) k) ?_
  show Goes p e below (T3.setTop (mkF m 39 #[.val (.int p1), .val (.int p2), .val (.int p3), .val (.int p4), .val (.ref b1), .unset, .unset, .unset, .unset, .unset, .unset, .unset] [(.int (255 : Int32)), (.int ((p4.toUInt32 >>> ((16 : Int32) &&& 31).toUInt32).toInt32)), (.int (2 : Int32)), (.ref b1)])) _
  refine Goes.via (fun t k => XS.iand X3.here hx rfl (hb hby at_39) rfl k) ?_
  show Goes p e below (T3.setTop (mkF m 40 #[.val (.int p1), .val (.int p2), .val (.int p3), .val (.int p4), .val (.ref b1), .unset, .unset, .unset, .unset, .unset, .unset, .unset] [(.int (((p4.toUInt32 >>> ((16 : Int32) &&& 31).toUInt32).toInt32) &&& (255 : Int32))), (.int (2 : Int32)), (.ref b1)])) _
  refine Goes.via (fun t k => XS.i2c X3.here hx rfl (hb hby at_40) rfl k) ?_
  show Goes p e below (T3.setTop (mkF m 41 #[.val (.int p1), .val (.int p2), .val (.int p3), .val (.int p4), .val (.ref b1), .unset, .unset, .unset, .unset, .unset, .unset, .unset] [(.int ((((p4.toUInt32 >>> ((16 : Int32) &&& 31).toUInt32).toInt32) &&& (255 : Int32)).toUInt32.toUInt16.toUInt32.toInt32)), (.int (2 : Int32)), (.ref b1)])) _
  obtain ⟨cl4, Ar4, qa4, Sa4, Na4, Ha4, Ga4⟩ := V3
  have hin4 : ¬ ((2 : Int32) < 0 ∨ cl4.slots.size ≤ ((2 : Int32)).toNatClampNeg) := inb_of Sa4 ⟨by decide, by decide⟩
  obtain ⟨T4, h4, X4, e4, W4, st4⟩ := stC X3 hx hZ e3 Ar4 (j := (2 : Int32)) hin4 (g := (mkF m 41 #[.val (.int p1), .val (.int p2), .val (.int p3), .val (.int p4), .val (.ref b1), .unset, .unset, .unset, .unset, .unset, .unset, .unset] [(.int ((((p4.toUInt32 >>> ((16 : Int32) &&& 31).toUInt32).toInt32) &&& (255 : Int32)).toUInt32.toUInt16.toUInt32.toInt32)), (.int (2 : Int32)), (.ref b1)])) rfl rfl (hb hby at_41)
  have V4 : Arv Z h4 b1 ka1 .char (6 : Int32) [(.int (nar .char ((p4 &&& (255 : Int32)).toUInt32.toUInt16.toUInt32.toInt32))), (.int (nar .char ((((p4.toUInt32 >>> ((8 : Int32) &&& 31).toUInt32).toInt32) &&& (255 : Int32)).toUInt32.toUInt16.toUInt32.toInt32))), (.int (nar .char ((((p4.toUInt32 >>> ((16 : Int32) &&& 31).toUInt32).toInt32) &&& (255 : Int32)).toUInt32.toUInt16.toUInt32.toInt32))), (.int (0 : Int32)), (.int (0 : Int32)), (.int (0 : Int32))] (.int (0 : Int32)) := Arv.set Ar4 qa4 Sa4 Na4 Ha4 Ga4 (fits_nar_char _) W4 2 rfl (Nat.le_of_ble_eq_true rfl)
  have K4 : Keep h0 h4 [] := K3.wr W4 (Or.inr sz_b1)
  have Z4 : n0 ≤ h4.size := Nat.le_trans Z3 (Keep.of_wr W4).1
  have N4 := Fr.snoc X4 N3 ge_b1
  have O4 := O3.wr W4 ge_b1
  have hk := Nat.le_trans hk (Keep.of_wr W4).1
  refine Goes.via st4 ?_
  show Goes p e below (T4.setTop (mkF m 42 #[.val (.int p1), .val (.int p2), .val (.int p3), .val (.int p4), .val (.ref b1), .unset, .unset, .unset, .unset, .unset, .unset, .unset] [])) _
  refine Goes.via (fun t k => XS.aload X4.here hx rfl (hb hby at_42) rfl rfl k) ?_
  show Goes p e below (T4.setTop (mkF m 44 #[.val (.int p1), .val (.int p2), .val (.int p3), .val (.int p4), .val (.ref b1), .unset, .unset, .unset, .unset, .unset, .unset, .unset] [(.ref b1)])) _
  refine Goes.via (fun t k => XS.iconst X4.here hx rfl (hb hby at_44) k) ?_
  show Goes p e below (T4.setTop (mkF m 45 #[.val (.int p1), .val (.int p2), .val (.int p3), .val (.int p4), .val (.ref b1), .unset, .unset, .unset, .unset, .unset, .unset, .unset] [(.int (3 : Int32)), (.ref b1)])) _
  refine Goes.via (fun t k => XS.iloadN X4.here hx rfl (hb hby at_45) rfl k) ?_
  show Goes p e below (T4.setTop (mkF m 46 #[.val (.int p1), .val (.int p2), .val (.int p3), .val (.int p4), .val (.ref b1), .unset, .unset, .unset, .unset, .unset, .unset, .unset] [(.int p4), (.int (3 : Int32)), (.ref b1)])) _
  refine Goes.via (fun t k => XS.bipush X4.here hx rfl (hb hby at_46) k) ?_
  show Goes p e below (T4.setTop (mkF m 48 #[.val (.int p1), .val (.int p2), .val (.int p3), .val (.int p4), .val (.ref b1), .unset, .unset, .unset, .unset, .unset, .unset, .unset] [(.int (24 : Int32)), (.int p4), (.int (3 : Int32)), (.ref b1)])) _
  refine Goes.via (fun t k => XS.iushr X4.here hx rfl (hb hby at_48) rfl k) ?_
  show Goes p e below (T4.setTop (mkF m 49 #[.val (.int p1), .val (.int p2), .val (.int p3), .val (.int p4), .val (.ref b1), .unset, .unset, .unset, .unset, .unset, .unset, .unset] [(.int ((p4.toUInt32 >>> ((24 : Int32) &&& 31).toUInt32).toInt32)), (.int (3 : Int32)), (.ref b1)])) _
  refine Goes.via (fun t k => XS.sipush X4.here hx rfl (hb hby at_49) k) ?_
  show Goes p e below (T4.setTop (mkF m 52 #[.val (.int p1), .val (.int p2), .val (.int p3), .val (.int p4), .val (.ref b1), .unset, .unset, .unset, .unset, .unset, .unset, .unset] [(.int (255 : Int32)), (.int ((p4.toUInt32 >>> ((24 : Int32) &&& 31).toUInt32).toInt32)), (.int (3 : Int32)), (.ref b1)])) _
  refine Goes.via (fun t k => XS.iand X4.here hx rfl (hb hby at_52) rfl k) ?_
  show Goes p e below (T4.setTop (mkF m 53 #[.val (.int p1), .val (.int p2), .val (.int p3), .val (.int p4), .val (.ref b1), .unset, .unset, .unset, .unset, .unset, .unset, .unset] [(.int (((p4.toUInt32 >>> ((24 : Int32) &&& 31).toUInt32).toInt32) &&& (255 : Int32))), (.int (3 : Int32)), (.ref b1)])) _
  refine Goes.via (fun t k => XS.i2c X4.here hx rfl (hb hby at_53) rfl k) ?_
  show Goes p e below (T4.setTop (mkF m 54 #[.val (.int p1), .val (.int p2), .val (.int p3), .val (.int p4), .val (.ref b1), .unset, .unset, .unset, .unset, .unset, .unset, .unset] [(.int ((((p4.toUInt32 >>> ((24 : Int32) &&& 31).toUInt32).toInt32) &&& (255 : Int32)).toUInt32.toUInt16.toUInt32.toInt32)), (.int (3 : Int32)), (.ref b1)])) _
  obtain ⟨cl5, Ar5, qa5, Sa5, Na5, Ha5, Ga5⟩ := V4
  have hin5 : ¬ ((3 : Int32) < 0 ∨ cl5.slots.size ≤ ((3 : Int32)).toNatClampNeg) := inb_of Sa5 ⟨by decide, by decide⟩
  obtain ⟨T5, h5, X5, e5, W5, st5⟩ := stC X4 hx hZ e4 Ar5 (j := (3 : Int32)) hin5 (g := (mkF m 54 #[.val (.int p1), .val (.int p2), .val (.int p3), .val (.int p4), .val (.ref b1), .unset, .unset, .unset, .unset, .unset, .unset, .unset] [(.int ((((p4.toUInt32 >>> ((24 : Int32) &&& 31).toUInt32).toInt32) &&& (255 : Int32)).toUInt32.toUInt16.toUInt32.toInt32)), (.int (3 : Int32)), (.ref b1)])) rfl rfl (hb hby at_54)
  have V5 : Arv Z h5 b1 ka1 .char (6 : Int32) [(.int (nar .char ((p4 &&& (255 : Int32)).toUInt32.toUInt16.toUInt32.toInt32))), (.int (nar .char ((((p4.toUInt32 >>> ((8 : Int32) &&& 31).toUInt32).toInt32) &&& (255 : Int32)).toUInt32.toUInt16.toUInt32.toInt32))), (.int (nar .char ((((p4.toUInt32 >>> ((16 : Int32) &&& 31).toUInt32).toInt32) &&& (255 : Int32)).toUInt32.toUInt16.toUInt32.toInt32))), (.int (nar .char ((((p4.toUInt32 >>> ((24 : Int32) &&& 31).toUInt32).toInt32) &&& (255 : Int32)).toUInt32.toUInt16.toUInt32.toInt32))), (.int (0 : Int32)), (.int (0 : Int32))] (.int (0 : Int32)) := Arv.set Ar5 qa5 Sa5 Na5 Ha5 Ga5 (fits_nar_char _) W5 3 rfl (Nat.le_of_ble_eq_true rfl)
  have K5 : Keep h0 h5 [] := K4.wr W5 (Or.inr sz_b1)
  have Z5 : n0 ≤ h5.size := Nat.le_trans Z4 (Keep.of_wr W5).1
  have N5 := Fr.snoc X5 N4 ge_b1
  have O5 := O4.wr W5 ge_b1
  have hk := Nat.le_trans hk (Keep.of_wr W5).1
  refine Goes.via st5 ?_
  show Goes p e below (T5.setTop (mkF m 55 #[.val (.int p1), .val (.int p2), .val (.int p3), .val (.int p4), .val (.ref b1), .unset, .unset, .unset, .unset, .unset, .unset, .unset] [])) _
  refine Goes.via (fun t k => XS.aload X5.here hx rfl (hb hby at_55) rfl rfl k) ?_
  show Goes p e below (T5.setTop (mkF m 57 #[.val (.int p1), .val (.int p2), .val (.int p3), .val (.int p4), .val (.ref b1), .unset, .unset, .unset, .unset, .unset, .unset, .unset] [(.ref b1)])) _
  refine Goes.via (fun t k => XS.iconst X5.here hx rfl (hb hby at_57) k) ?_
  show Goes p e below (T5.setTop (mkF m 58 #[.val (.int p1), .val (.int p2), .val (.int p3), .val (.int p4), .val (.ref b1), .unset, .unset, .unset, .unset, .unset, .unset, .unset] [(.int (4 : Int32)), (.ref b1)])) _
  refine Goes.via (fun t k => XS.iloadN X5.here hx rfl (hb hby at_58) rfl k) ?_
  show Goes p e below (T5.setTop (mkF m 59 #[.val (.int p1), .val (.int p2), .val (.int p3), .val (.int p4), .val (.ref b1), .unset, .unset, .unset, .unset, .unset, .unset, .unset] [(.int p1), (.int (4 : Int32)), (.ref b1)])) _
  refine Goes.via (fun t k => XS.sipush X5.here hx rfl (hb hby at_59) k) ?_
  show Goes p e below (T5.setTop (mkF m 62 #[.val (.int p1), .val (.int p2), .val (.int p3), .val (.int p4), .val (.ref b1), .unset, .unset, .unset, .unset, .unset, .unset, .unset] [(.int (255 : Int32)), (.int p1), (.int (4 : Int32)), (.ref b1)])) _
  refine Goes.via (fun t k => XS.iand X5.here hx rfl (hb hby at_62) rfl k) ?_
  show Goes p e below (T5.setTop (mkF m 63 #[.val (.int p1), .val (.int p2), .val (.int p3), .val (.int p4), .val (.ref b1), .unset, .unset, .unset, .unset, .unset, .unset, .unset] [(.int (p1 &&& (255 : Int32))), (.int (4 : Int32)), (.ref b1)])) _
  refine Goes.via (fun t k => XS.i2c X5.here hx rfl (hb hby at_63) rfl k) ?_
  show Goes p e below (T5.setTop (mkF m 64 #[.val (.int p1), .val (.int p2), .val (.int p3), .val (.int p4), .val (.ref b1), .unset, .unset, .unset, .unset, .unset, .unset, .unset] [(.int ((p1 &&& (255 : Int32)).toUInt32.toUInt16.toUInt32.toInt32)), (.int (4 : Int32)), (.ref b1)])) _
  obtain ⟨cl6, Ar6, qa6, Sa6, Na6, Ha6, Ga6⟩ := V5
  have hin6 : ¬ ((4 : Int32) < 0 ∨ cl6.slots.size ≤ ((4 : Int32)).toNatClampNeg) := inb_of Sa6 ⟨by decide, by decide⟩
  obtain ⟨T6, h6, X6, e6, W6, st6⟩ := stC X5 hx hZ e5 Ar6 (j := (4 : Int32)) hin6 (g := (mkF m 64 #[.val (.int p1), .val (.int p2), .val (.int p3), .val (.int p4), .val (.ref b1), .unset, .unset, .unset, .unset, .unset, .unset, .unset] [(.int ((p1 &&& (255 : Int32)).toUInt32.toUInt16.toUInt32.toInt32)), (.int (4 : Int32)), (.ref b1)])) rfl rfl (hb hby at_64)
  have V6 : Arv Z h6 b1 ka1 .char (6 : Int32) [(.int (nar .char ((p4 &&& (255 : Int32)).toUInt32.toUInt16.toUInt32.toInt32))), (.int (nar .char ((((p4.toUInt32 >>> ((8 : Int32) &&& 31).toUInt32).toInt32) &&& (255 : Int32)).toUInt32.toUInt16.toUInt32.toInt32))), (.int (nar .char ((((p4.toUInt32 >>> ((16 : Int32) &&& 31).toUInt32).toInt32) &&& (255 : Int32)).toUInt32.toUInt16.toUInt32.toInt32))), (.int (nar .char ((((p4.toUInt32 >>> ((24 : Int32) &&& 31).toUInt32).toInt32) &&& (255 : Int32)).toUInt32.toUInt16.toUInt32.toInt32))), (.int (nar .char ((p1 &&& (255 : Int32)).toUInt32.toUInt16.toUInt32.toInt32))), (.int (0 : Int32))] (.int (0 : Int32)) := Arv.set Ar6 qa6 Sa6 Na6 Ha6 Ga6 (fits_nar_char _) W6 4 rfl (Nat.le_of_ble_eq_true rfl)
  have K6 : Keep h0 h6 [] := K5.wr W6 (Or.inr sz_b1)
  have Z6 : n0 ≤ h6.size := Nat.le_trans Z5 (Keep.of_wr W6).1
  have N6 := Fr.snoc X6 N5 ge_b1
  have O6 := O5.wr W6 ge_b1
  have hk := Nat.le_trans hk (Keep.of_wr W6).1
  refine Goes.via st6 ?_
  show Goes p e below (T6.setTop (mkF m 65 #[.val (.int p1), .val (.int p2), .val (.int p3), .val (.int p4), .val (.ref b1), .unset, .unset, .unset, .unset, .unset, .unset, .unset] [])) _
  refine Goes.via (fun t k => XS.aload X6.here hx rfl (hb hby at_65) rfl rfl k) ?_
  show Goes p e below (T6.setTop (mkF m 67 #[.val (.int p1), .val (.int p2), .val (.int p3), .val (.int p4), .val (.ref b1), .unset, .unset, .unset, .unset, .unset, .unset, .unset] [(.ref b1)])) _
  refine Goes.via (fun t k => XS.iconst X6.here hx rfl (hb hby at_67) k) ?_
  show Goes p e below (T6.setTop (mkF m 68 #[.val (.int p1), .val (.int p2), .val (.int p3), .val (.int p4), .val (.ref b1), .unset, .unset, .unset, .unset, .unset, .unset, .unset] [(.int (5 : Int32)), (.ref b1)])) _
  refine Goes.via (fun t k => XS.iloadN X6.here hx rfl (hb hby at_68) rfl k) ?_
  show Goes p e below (T6.setTop (mkF m 69 #[.val (.int p1), .val (.int p2), .val (.int p3), .val (.int p4), .val (.ref b1), .unset, .unset, .unset, .unset, .unset, .unset, .unset] [(.int p2), (.int (5 : Int32)), (.ref b1)])) _
  refine Goes.via (fun t k => XS.sipush X6.here hx rfl (hb hby at_69) k) ?_
  show Goes p e below (T6.setTop (mkF m 72 #[.val (.int p1), .val (.int p2), .val (.int p3), .val (.int p4), .val (.ref b1), .unset, .unset, .unset, .unset, .unset, .unset, .unset] [(.int (255 : Int32)), (.int p2), (.int (5 : Int32)), (.ref b1)])) _
  refine Goes.via (fun t k => XS.iand X6.here hx rfl (hb hby at_72) rfl k) ?_
  show Goes p e below (T6.setTop (mkF m 73 #[.val (.int p1), .val (.int p2), .val (.int p3), .val (.int p4), .val (.ref b1), .unset, .unset, .unset, .unset, .unset, .unset, .unset] [(.int (p2 &&& (255 : Int32))), (.int (5 : Int32)), (.ref b1)])) _
  refine Goes.via (fun t k => XS.i2c X6.here hx rfl (hb hby at_73) rfl k) ?_
  show Goes p e below (T6.setTop (mkF m 74 #[.val (.int p1), .val (.int p2), .val (.int p3), .val (.int p4), .val (.ref b1), .unset, .unset, .unset, .unset, .unset, .unset, .unset] [(.int ((p2 &&& (255 : Int32)).toUInt32.toUInt16.toUInt32.toInt32)), (.int (5 : Int32)), (.ref b1)])) _
  obtain ⟨cl7, Ar7, qa7, Sa7, Na7, Ha7, Ga7⟩ := V6
  have hin7 : ¬ ((5 : Int32) < 0 ∨ cl7.slots.size ≤ ((5 : Int32)).toNatClampNeg) := inb_of Sa7 ⟨by decide, by decide⟩
  obtain ⟨T7, h7, X7, e7, W7, st7⟩ := stC X6 hx hZ e6 Ar7 (j := (5 : Int32)) hin7 (g := (mkF m 74 #[.val (.int p1), .val (.int p2), .val (.int p3), .val (.int p4), .val (.ref b1), .unset, .unset, .unset, .unset, .unset, .unset, .unset] [(.int ((p2 &&& (255 : Int32)).toUInt32.toUInt16.toUInt32.toInt32)), (.int (5 : Int32)), (.ref b1)])) rfl rfl (hb hby at_74)
  have V7 : Arv Z h7 b1 ka1 .char (6 : Int32) [(.int (nar .char ((p4 &&& (255 : Int32)).toUInt32.toUInt16.toUInt32.toInt32))), (.int (nar .char ((((p4.toUInt32 >>> ((8 : Int32) &&& 31).toUInt32).toInt32) &&& (255 : Int32)).toUInt32.toUInt16.toUInt32.toInt32))), (.int (nar .char ((((p4.toUInt32 >>> ((16 : Int32) &&& 31).toUInt32).toInt32) &&& (255 : Int32)).toUInt32.toUInt16.toUInt32.toInt32))), (.int (nar .char ((((p4.toUInt32 >>> ((24 : Int32) &&& 31).toUInt32).toInt32) &&& (255 : Int32)).toUInt32.toUInt16.toUInt32.toInt32))), (.int (nar .char ((p1 &&& (255 : Int32)).toUInt32.toUInt16.toUInt32.toInt32))), (.int (nar .char ((p2 &&& (255 : Int32)).toUInt32.toUInt16.toUInt32.toInt32)))] (.int (0 : Int32)) := Arv.set Ar7 qa7 Sa7 Na7 Ha7 Ga7 (fits_nar_char _) W7 5 rfl (Nat.le_of_ble_eq_true rfl)
  have K7 : Keep h0 h7 [] := K6.wr W7 (Or.inr sz_b1)
  have Z7 : n0 ≤ h7.size := Nat.le_trans Z6 (Keep.of_wr W7).1
  have N7 := Fr.snoc X7 N6 ge_b1
  have O7 := O6.wr W7 ge_b1
  have hk := Nat.le_trans hk (Keep.of_wr W7).1
  refine Goes.via st7 ?_
  show Goes p e below (T7.setTop (mkF m 75 #[.val (.int p1), .val (.int p2), .val (.int p3), .val (.int p4), .val (.ref b1), .unset, .unset, .unset, .unset, .unset, .unset, .unset] [])) _
  obtain ⟨T8, h8, X8, e8, E8, A8, D8, -, st8⟩ := newO X7 hx hZ hown (hw _ (List.mem_of_getElem? (i := 1) rfl)) (hw _ (List.mem_of_getElem? (i := 2) rfl)) (hw _ (List.mem_of_getElem? (i := 3) rfl)) e7 (g := (mkF m 75 #[.val (.int p1), .val (.int p2), .val (.int p3), .val (.int p4), .val (.ref b1), .unset, .unset, .unset, .unset, .unset, .unset, .unset] [])) rfl (hb hby at_75) (by decide) (by decide)
  obtain ⟨b8, g8⟩ : ∃ z, z = h7.size := ⟨_, rfl⟩
  rw [← g8] at A8 D8 st8
  have lt_b1_b8 : b1 < b8 := Nat.lt_of_lt_of_le V7.lt (Nat.le_of_eq g8.symm)
  have ge_b8 : n0 ≤ b8 := Nat.le_trans Z7 (Nat.le_of_eq g8.symm)
  have sz_b8 : h0.size ≤ b8 := Nat.le_trans K7.1 (Nat.le_of_eq g8.symm)
  have F8_172 := V7.ext E8
  have K8 : Keep h0 h8 [] := K7.ext E8
  have Z8 : n0 ≤ h8.size := Nat.le_trans Z7 E8.1
  have O8 := O7.ext E8
  have hk := Nat.le_trans hk E8.1
  have F8_coder : Fld Z h8 b8 "java/lang/String" "coder" "B" (.int (0 : Int32)) := D8 (Or.inr (hw _ (List.mem_of_getElem? (i := 27) rfl))) (ty := .byte) (by decide)
  have F8_value : Fld Z h8 b8 "java/lang/String" "value" "[B" .null := D8 (Or.inr (hw _ (List.mem_of_getElem? (i := 29) rfl))) (ty := (.array .byte)) (by decide)
  refine Goes.via st8 ?_
  show Goes p e below (T8.setTop (mkF m 78 #[.val (.int p1), .val (.int p2), .val (.int p3), .val (.int p4), .val (.ref b1), .unset, .unset, .unset, .unset, .unset, .unset, .unset] [(.ref b8)])) _
  refine Goes.via (fun t k => XS.dup X8.here hx rfl (hb hby at_78) rfl rfl k) ?_
  show Goes p e below (T8.setTop (mkF m 79 #[.val (.int p1), .val (.int p2), .val (.int p3), .val (.int p4), .val (.ref b1), .unset, .unset, .unset, .unset, .unset, .unset, .unset] [(.ref b8), (.ref b8)])) _
  refine Goes.via (fun t k => XS.aload X8.here hx rfl (hb hby at_79) rfl rfl k) ?_
  show Goes p e below (T8.setTop (mkF m 81 #[.val (.int p1), .val (.int p2), .val (.int p3), .val (.int p4), .val (.ref b1), .unset, .unset, .unset, .unset, .unset, .unset, .unset] [(.ref b1), (.ref b8), (.ref b8)])) _
  try clear g8; try clear st8; try clear D8; try clear E8; try clear O7; try clear Z7; try clear K7; try clear V7; try clear st7; try clear W7; try clear e7; try clear X7
  try clear h7; try clear T7; try clear hin7; try clear Ga7; try clear Ha7; try clear Na7; try clear Sa7; try clear qa7; try clear Ar7; try clear cl7; try clear O6; try clear N6
  try clear Z6; try clear K6; try clear V6; try clear st6; try clear W6; try clear e6; try clear X6; try clear h6; try clear T6; try clear hin6; try clear Ga6; try clear Ha6
  try clear Na6; try clear Sa6; try clear qa6; try clear Ar6; try clear cl6; try clear O5; try clear N5; try clear Z5; try clear K5; try clear V5; try clear st5; try clear W5
  try clear e5; try clear X5; try clear h5; try clear T5; try clear hin5; try clear Ga5; try clear Ha5; try clear Na5; try clear Sa5; try clear qa5; try clear Ar5; try clear cl5
  try clear O4; try clear N4; try clear Z4; try clear K4; try clear V4; try clear st4; try clear W4; try clear e4; try clear X4; try clear h4; try clear T4; try clear hin4
  try clear Ga4; try clear Ha4; try clear Na4; try clear Sa4; try clear qa4; try clear Ar4; try clear cl4; try clear O3; try clear N3; try clear Z3; try clear K3; try clear V3
  try clear st3; try clear W3; try clear e3; try clear X3; try clear h3; try clear T3; try clear hin3; try clear Ga3; try clear Ha3; try clear Na3; try clear Sa3; try clear qa3
  try clear Ar3; try clear cl3; try clear O2; try clear N2; try clear Z2; try clear K2; try clear V2; try clear st2; try clear W2; try clear e2; try clear X2; try clear h2
  try clear T2; try clear hin2; try clear Ga2; try clear Ha2; try clear Na2; try clear Sa2; try clear qa2; try clear Ar2; try clear cl2; try clear V1; try clear O1; try clear Z1
  try clear K1; try clear size; try clear h0; try clear g1; try clear st1; try clear A1; try clear E1; try clear e1; try clear X1; try clear h1; try clear T1
  obtain ⟨Lw9, X9w, N9w⟩ := ownPack X8 N7
  obtain ⟨_, _, ⟨T10, L10, k10, n10⟩, -, X10, ⟨Lc10, hQ10, l10, y10, z10⟩, st10⟩ := X9w.specialBack hx (y := (⟨"java/lang/String", "<init>", "([C)V"⟩ : MethodName)) rfl hown (mvT hZ (hw _ (List.mem_of_getElem? (i := 4) rfl))) (mvT hZ (hw _ (List.mem_of_getElem? (i := 5) rfl))) (mvT hZ (hw _ (List.mem_of_getElem? (i := 6) rfl))) (by decide) (backOf (W := 1) (rm1_6 l Z a0 hw [] b8 b1 ka1 (nar .char ((p4 &&& (255 : Int32)).toUInt32.toUInt16.toUInt32.toInt32)) (nar .char ((((p4.toUInt32 >>> ((8 : Int32) &&& 31).toUInt32).toInt32) &&& (255 : Int32)).toUInt32.toUInt16.toUInt32.toInt32)) (nar .char ((((p4.toUInt32 >>> ((16 : Int32) &&& 31).toUInt32).toInt32) &&& (255 : Int32)).toUInt32.toUInt16.toUInt32.toInt32)) (nar .char ((((p4.toUInt32 >>> ((24 : Int32) &&& 31).toUInt32).toInt32) &&& (255 : Int32)).toUInt32.toUInt16.toUInt32.toInt32)) (nar .char ((p1 &&& (255 : Int32)).toUInt32.toUInt16.toUInt32.toInt32)) (nar .char ((p2 &&& (255 : Int32)).toUInt32.toUInt16.toUInt32.toInt32)) w0 h8 n0 Z8 A8 F8_value F8_coder F8_172 ge_b8 (Nat.ne_of_gt lt_b1_b8) O8 St (own_c255 _) (own_c255 _) (own_c255 _) (own_c255 _) (own_c255 _) (own_c255 _)) hZ (hw _ (List.mem_of_getElem? (i := 6) rfl)) (hw _ (List.mem_of_getElem? (i := 3) rfl)) (by decide) (by decide)) (g := (mkF m 81 #[.val (.int p1), .val (.int p2), .val (.int p3), .val (.int p4), .val (.ref b1), .unset, .unset, .unset, .unset, .unset, .unset, .unset] [(.ref b1), (.ref b8), (.ref b8)])) rfl (by rw [hml]; rfl) (Steps.refl _) (a := b8) (argsL := [(.ref b1)]) (rest := [(.ref b8)]) (lenOf pd_0_0 rfl) rfl (by show 2 * 0 + _ ≤ _; exact Nat.le_of_eq rfl) (hb hby at_81) (fun _ _ => ⟨rfl, e8, (by decide : 2 + 1 ≤ _), (by decide : 10 + 6 ≤ _)⟩)
  dsimp only [Pt.U, Pt.locs, Pt.cells, Pt.slots] at X10 l10 y10 z10 st10 hQ10
  subst l10 y10 z10
  obtain ⟨rfl, N10q, Kc10, Ec10, Cc10, t10, kt10, gt10, zt10, Vq10, Vc10⟩ := hQ10
  have lt_b1_t10 : b1 < t10 := Nat.lt_of_lt_of_le F8_172.lt zt10
  have lt_b8_t10 : b8 < t10 := Nat.lt_of_lt_of_le A8.lt zt10
  have sz_t10 : h0.size ≤ t10 := Nat.le_trans K8.1 zt10
  have F10_204 := F8_172.keep Kc10 (fun q => (Nat.ne_of_lt lt_b1_b8) (List.mem_singleton.mp q))
  have F10_205 := A8.keep Kc10
  have K10 : Keep h0 T10.heap [] := K8.trans Kc10 (fun x hx => by cases List.mem_singleton.mp hx; exact Or.inr sz_b8)
  have Z10 : n0 ≤ T10.heap.size := Nat.le_trans Z8 Kc10.1
  have O10 := O8.keep Kc10 (fun x hx => by cases List.mem_singleton.mp hx; exact ge_b8)
  have hk := Nat.le_trans hk Kc10.1
  have N10 := Fr.app N9w N10q
  refine Goes.via (fun t k => st10.trans k) ?_
  show Goes p e below (T10.setTop (mkF m 84 #[.val (.int p1), .val (.int p2), .val (.int p3), .val (.int p4), .val (.ref b1), .unset, .unset, .unset, .unset, .unset, .unset, .unset] [(.ref b8)])) _
  refine Goes.via (fun t k => XS.astore X10.here hx rfl (hb hby at_84) rfl rfl (l' := #[.val (.int p1), .val (.int p2), .val (.int p3), .val (.int p4), .val (.ref b1), .val (.ref b8), .unset, .unset, .unset, .unset, .unset, .unset]) rfl k) ?_
  show Goes p e below (T10.setTop (mkF m 86 #[.val (.int p1), .val (.int p2), .val (.int p3), .val (.int p4), .val (.ref b1), .val (.ref b8), .unset, .unset, .unset, .unset, .unset, .unset] [])) _
  refine Goes.via (fun t k => XS.iloadN X10.here hx rfl (hb hby at_86) rfl k) ?_
  show Goes p e below (T10.setTop (mkF m 87 #[.val (.int p1), .val (.int p2), .val (.int p3), .val (.int p4), .val (.ref b1), .val (.ref b8), .unset, .unset, .unset, .unset, .unset, .unset] [(.int p1)])) _
  refine Goes.via (fun t k => X10.ldcInt hx hown (mvT hZ (hw _ (List.mem_of_getElem? (i := 30) rfl))) (g := (mkF m 87 #[.val (.int p1), .val (.int p2), .val (.int p3), .val (.int p4), .val (.ref b1), .val (.ref b8), .unset, .unset, .unset, .unset, .unset, .unset] [(.int p1)])) rfl (hb hby at_87) _ k) ?_
  show Goes p e below (T10.setTop (mkF m 89 #[.val (.int p1), .val (.int p2), .val (.int p3), .val (.int p4), .val (.ref b1), .val (.ref b8), .unset, .unset, .unset, .unset, .unset, .unset] [(.int (2147483647 : Int32)), (.int p1)])) _
  refine Goes.via (fun t k => XS.iand X10.here hx rfl (hb hby at_89) rfl k) ?_
  show Goes p e below (T10.setTop (mkF m 90 #[.val (.int p1), .val (.int p2), .val (.int p3), .val (.int p4), .val (.ref b1), .val (.ref b8), .unset, .unset, .unset, .unset, .unset, .unset] [(.int (p1 &&& (2147483647 : Int32)))])) _
  refine Goes.via (fun t k => XS.bipush X10.here hx rfl (hb hby at_90) k) ?_
  show Goes p e below (T10.setTop (mkF m 92 #[.val (.int p1), .val (.int p2), .val (.int p3), .val (.int p4), .val (.ref b1), .val (.ref b8), .unset, .unset, .unset, .unset, .unset, .unset] [(.int (7 : Int32)), (.int (p1 &&& (2147483647 : Int32)))])) _
  refine Goes.via (fun t k => iremM X10 hx rfl (hb hby at_92) rfl (by decide) k) ?_
  show Goes p e below (T10.setTop (mkF m 93 #[.val (.int p1), .val (.int p2), .val (.int p3), .val (.int p4), .val (.ref b1), .val (.ref b8), .unset, .unset, .unset, .unset, .unset, .unset] [(.int ((p1 &&& (2147483647 : Int32)) % (7 : Int32)))])) _
  refine Goes.via (fun t k => XS.istore X10.here hx rfl (hb hby at_93) rfl (l' := #[.val (.int p1), .val (.int p2), .val (.int p3), .val (.int p4), .val (.ref b1), .val (.ref b8), .val (.int ((p1 &&& (2147483647 : Int32)) % (7 : Int32))), .unset, .unset, .unset, .unset, .unset]) rfl k) ?_
  show Goes p e below (T10.setTop (mkF m 95 #[.val (.int p1), .val (.int p2), .val (.int p3), .val (.int p4), .val (.ref b1), .val (.ref b8), .val (.int ((p1 &&& (2147483647 : Int32)) % (7 : Int32))), .unset, .unset, .unset, .unset, .unset] [])) _
  refine Goes.via (fun t k => XS.iload X10.here hx rfl (hb hby at_95) rfl k) ?_
  show Goes p e below (T10.setTop (mkF m 97 #[.val (.int p1), .val (.int p2), .val (.int p3), .val (.int p4), .val (.ref b1), .val (.ref b8), .val (.int ((p1 &&& (2147483647 : Int32)) % (7 : Int32))), .unset, .unset, .unset, .unset, .unset] [(.int ((p1 &&& (2147483647 : Int32)) % (7 : Int32)))])) _
  refine Goes.via (fun t k => XS.iloadN X10.here hx rfl (hb hby at_97) rfl k) ?_
  show Goes p e below (T10.setTop (mkF m 98 #[.val (.int p1), .val (.int p2), .val (.int p3), .val (.int p4), .val (.ref b1), .val (.ref b8), .val (.int ((p1 &&& (2147483647 : Int32)) % (7 : Int32))), .unset, .unset, .unset, .unset, .unset] [(.int p2), (.int ((p1 &&& (2147483647 : Int32)) % (7 : Int32)))])) _
  refine Goes.via (fun t k => X10.ldcInt hx hown (mvT hZ (hw _ (List.mem_of_getElem? (i := 30) rfl))) (g := (mkF m 98 #[.val (.int p1), .val (.int p2), .val (.int p3), .val (.int p4), .val (.ref b1), .val (.ref b8), .val (.int ((p1 &&& (2147483647 : Int32)) % (7 : Int32))), .unset, .unset, .unset, .unset, .unset] [(.int p2), (.int ((p1 &&& (2147483647 : Int32)) % (7 : Int32)))])) rfl (hb hby at_98) _ k) ?_
  show Goes p e below (T10.setTop (mkF m 100 #[.val (.int p1), .val (.int p2), .val (.int p3), .val (.int p4), .val (.ref b1), .val (.ref b8), .val (.int ((p1 &&& (2147483647 : Int32)) % (7 : Int32))), .unset, .unset, .unset, .unset, .unset] [(.int (2147483647 : Int32)), (.int p2), (.int ((p1 &&& (2147483647 : Int32)) % (7 : Int32)))])) _
  refine Goes.via (fun t k => XS.iand X10.here hx rfl (hb hby at_100) rfl k) ?_
  show Goes p e below (T10.setTop (mkF m 101 #[.val (.int p1), .val (.int p2), .val (.int p3), .val (.int p4), .val (.ref b1), .val (.ref b8), .val (.int ((p1 &&& (2147483647 : Int32)) % (7 : Int32))), .unset, .unset, .unset, .unset, .unset] [(.int (p2 &&& (2147483647 : Int32))), (.int ((p1 &&& (2147483647 : Int32)) % (7 : Int32)))])) _
  refine Goes.via (fun t k => XS.bipush X10.here hx rfl (hb hby at_101) k) ?_
  show Goes p e below (T10.setTop (mkF m 103 #[.val (.int p1), .val (.int p2), .val (.int p3), .val (.int p4), .val (.ref b1), .val (.ref b8), .val (.int ((p1 &&& (2147483647 : Int32)) % (7 : Int32))), .unset, .unset, .unset, .unset, .unset] [(.int (7 : Int32)), (.int (p2 &&& (2147483647 : Int32))), (.int ((p1 &&& (2147483647 : Int32)) % (7 : Int32)))])) _
  refine Goes.via (fun t k => XS.iload X10.here hx rfl (hb hby at_103) rfl k) ?_
  show Goes p e below (T10.setTop (mkF m 105 #[.val (.int p1), .val (.int p2), .val (.int p3), .val (.int p4), .val (.ref b1), .val (.ref b8), .val (.int ((p1 &&& (2147483647 : Int32)) % (7 : Int32))), .unset, .unset, .unset, .unset, .unset] [(.int ((p1 &&& (2147483647 : Int32)) % (7 : Int32))), (.int (7 : Int32)), (.int (p2 &&& (2147483647 : Int32))), (.int ((p1 &&& (2147483647 : Int32)) % (7 : Int32)))])) _
  refine Goes.via (fun t k => XS.isub X10.here hx rfl (hb hby at_105) rfl k) ?_
  show Goes p e below (T10.setTop (mkF m 106 #[.val (.int p1), .val (.int p2), .val (.int p3), .val (.int p4), .val (.ref b1), .val (.ref b8), .val (.int ((p1 &&& (2147483647 : Int32)) % (7 : Int32))), .unset, .unset, .unset, .unset, .unset] [(.int ((7 : Int32) - ((p1 &&& (2147483647 : Int32)) % (7 : Int32)))), (.int (p2 &&& (2147483647 : Int32))), (.int ((p1 &&& (2147483647 : Int32)) % (7 : Int32)))])) _
  refine Goes.via (fun t k => iremM X10 hx rfl (hb hby at_106) rfl (own_nz p1) k) ?_
  show Goes p e below (T10.setTop (mkF m 107 #[.val (.int p1), .val (.int p2), .val (.int p3), .val (.int p4), .val (.ref b1), .val (.ref b8), .val (.int ((p1 &&& (2147483647 : Int32)) % (7 : Int32))), .unset, .unset, .unset, .unset, .unset] [(.int ((p2 &&& (2147483647 : Int32)) % ((7 : Int32) - ((p1 &&& (2147483647 : Int32)) % (7 : Int32))))), (.int ((p1 &&& (2147483647 : Int32)) % (7 : Int32)))])) _
  refine Goes.via (fun t k => XS.iadd X10.here hx rfl (hb hby at_107) rfl k) ?_
  show Goes p e below (T10.setTop (mkF m 108 #[.val (.int p1), .val (.int p2), .val (.int p3), .val (.int p4), .val (.ref b1), .val (.ref b8), .val (.int ((p1 &&& (2147483647 : Int32)) % (7 : Int32))), .unset, .unset, .unset, .unset, .unset] [(.int (((p1 &&& (2147483647 : Int32)) % (7 : Int32)) + ((p2 &&& (2147483647 : Int32)) % ((7 : Int32) - ((p1 &&& (2147483647 : Int32)) % (7 : Int32))))))])) _
  refine Goes.via (fun t k => XS.istore X10.here hx rfl (hb hby at_108) rfl (l' := #[.val (.int p1), .val (.int p2), .val (.int p3), .val (.int p4), .val (.ref b1), .val (.ref b8), .val (.int ((p1 &&& (2147483647 : Int32)) % (7 : Int32))), .val (.int (((p1 &&& (2147483647 : Int32)) % (7 : Int32)) + ((p2 &&& (2147483647 : Int32)) % ((7 : Int32) - ((p1 &&& (2147483647 : Int32)) % (7 : Int32)))))), .unset, .unset, .unset, .unset]) rfl k) ?_
  show Goes p e below (T10.setTop (mkF m 110 #[.val (.int p1), .val (.int p2), .val (.int p3), .val (.int p4), .val (.ref b1), .val (.ref b8), .val (.int ((p1 &&& (2147483647 : Int32)) % (7 : Int32))), .val (.int (((p1 &&& (2147483647 : Int32)) % (7 : Int32)) + ((p2 &&& (2147483647 : Int32)) % ((7 : Int32) - ((p1 &&& (2147483647 : Int32)) % (7 : Int32)))))), .unset, .unset, .unset, .unset] [])) _
  refine Goes.via (fun t k => XS.iloadN X10.here hx rfl (hb hby at_110) rfl k) ?_
  show Goes p e below (T10.setTop (mkF m 111 #[.val (.int p1), .val (.int p2), .val (.int p3), .val (.int p4), .val (.ref b1), .val (.ref b8), .val (.int ((p1 &&& (2147483647 : Int32)) % (7 : Int32))), .val (.int (((p1 &&& (2147483647 : Int32)) % (7 : Int32)) + ((p2 &&& (2147483647 : Int32)) % ((7 : Int32) - ((p1 &&& (2147483647 : Int32)) % (7 : Int32)))))), .unset, .unset, .unset, .unset] [(.int p3)])) _
  refine Goes.via (fun t k => X10.ldcInt hx hown (mvT hZ (hw _ (List.mem_of_getElem? (i := 30) rfl))) (g := (mkF m 111 #[.val (.int p1), .val (.int p2), .val (.int p3), .val (.int p4), .val (.ref b1), .val (.ref b8), .val (.int ((p1 &&& (2147483647 : Int32)) % (7 : Int32))), .val (.int (((p1 &&& (2147483647 : Int32)) % (7 : Int32)) + ((p2 &&& (2147483647 : Int32)) % ((7 : Int32) - ((p1 &&& (2147483647 : Int32)) % (7 : Int32)))))), .unset, .unset, .unset, .unset] [(.int p3)])) rfl (hb hby at_111) _ k) ?_
  show Goes p e below (T10.setTop (mkF m 113 #[.val (.int p1), .val (.int p2), .val (.int p3), .val (.int p4), .val (.ref b1), .val (.ref b8), .val (.int ((p1 &&& (2147483647 : Int32)) % (7 : Int32))), .val (.int (((p1 &&& (2147483647 : Int32)) % (7 : Int32)) + ((p2 &&& (2147483647 : Int32)) % ((7 : Int32) - ((p1 &&& (2147483647 : Int32)) % (7 : Int32)))))), .unset, .unset, .unset, .unset] [(.int (2147483647 : Int32)), (.int p3)])) _
  refine Goes.via (fun t k => XS.iand X10.here hx rfl (hb hby at_113) rfl k) ?_
  show Goes p e below (T10.setTop (mkF m 114 #[.val (.int p1), .val (.int p2), .val (.int p3), .val (.int p4), .val (.ref b1), .val (.ref b8), .val (.int ((p1 &&& (2147483647 : Int32)) % (7 : Int32))), .val (.int (((p1 &&& (2147483647 : Int32)) % (7 : Int32)) + ((p2 &&& (2147483647 : Int32)) % ((7 : Int32) - ((p1 &&& (2147483647 : Int32)) % (7 : Int32)))))), .unset, .unset, .unset, .unset] [(.int (p3 &&& (2147483647 : Int32)))])) _
  refine Goes.via (fun t k => XS.iconst X10.here hx rfl (hb hby at_114) k) ?_
  show Goes p e below (T10.setTop (mkF m 115 #[.val (.int p1), .val (.int p2), .val (.int p3), .val (.int p4), .val (.ref b1), .val (.ref b8), .val (.int ((p1 &&& (2147483647 : Int32)) % (7 : Int32))), .val (.int (((p1 &&& (2147483647 : Int32)) % (7 : Int32)) + ((p2 &&& (2147483647 : Int32)) % ((7 : Int32) - ((p1 &&& (2147483647 : Int32)) % (7 : Int32)))))), .unset, .unset, .unset, .unset] [(.int (4 : Int32)), (.int (p3 &&& (2147483647 : Int32)))])) _
  refine Goes.via (fun t k => iremM X10 hx rfl (hb hby at_115) rfl (by decide) k) ?_
  show Goes p e below (T10.setTop (mkF m 116 #[.val (.int p1), .val (.int p2), .val (.int p3), .val (.int p4), .val (.ref b1), .val (.ref b8), .val (.int ((p1 &&& (2147483647 : Int32)) % (7 : Int32))), .val (.int (((p1 &&& (2147483647 : Int32)) % (7 : Int32)) + ((p2 &&& (2147483647 : Int32)) % ((7 : Int32) - ((p1 &&& (2147483647 : Int32)) % (7 : Int32)))))), .unset, .unset, .unset, .unset] [(.int ((p3 &&& (2147483647 : Int32)) % (4 : Int32)))])) _
  rcases own_four p3 with hl | hl | hl | hl
  · rw [hl]
    show Goes p e below (T10.setTop (mkF m 116 #[.val (.int p1), .val (.int p2), .val (.int p3), .val (.int p4), .val (.ref b1), .val (.ref b8), .val (.int ((p1 &&& (2147483647 : Int32)) % (7 : Int32))), .val (.int (((p1 &&& (2147483647 : Int32)) % (7 : Int32)) + ((p2 &&& (2147483647 : Int32)) % ((7 : Int32) - ((p1 &&& (2147483647 : Int32)) % (7 : Int32)))))), .unset, .unset, .unset, .unset] [(.int (0 : Int32))])) _
    refine Goes.via (fun t k => XS.istore X10.here hx rfl (hb hby at_116) rfl (l' := #[.val (.int p1), .val (.int p2), .val (.int p3), .val (.int p4), .val (.ref b1), .val (.ref b8), .val (.int ((p1 &&& (2147483647 : Int32)) % (7 : Int32))), .val (.int (((p1 &&& (2147483647 : Int32)) % (7 : Int32)) + ((p2 &&& (2147483647 : Int32)) % ((7 : Int32) - ((p1 &&& (2147483647 : Int32)) % (7 : Int32)))))), .val (.int (0 : Int32)), .unset, .unset, .unset]) rfl k) ?_
    show Goes p e below (T10.setTop (mkF m 118 #[.val (.int p1), .val (.int p2), .val (.int p3), .val (.int p4), .val (.ref b1), .val (.ref b8), .val (.int ((p1 &&& (2147483647 : Int32)) % (7 : Int32))), .val (.int (((p1 &&& (2147483647 : Int32)) % (7 : Int32)) + ((p2 &&& (2147483647 : Int32)) % ((7 : Int32) - ((p1 &&& (2147483647 : Int32)) % (7 : Int32)))))), .val (.int (0 : Int32)), .unset, .unset, .unset] [])) _
    refine Goes.via (fun t k => XS.iload X10.here hx rfl (hb hby at_118) rfl k) ?_
    show Goes p e below (T10.setTop (mkF m 120 #[.val (.int p1), .val (.int p2), .val (.int p3), .val (.int p4), .val (.ref b1), .val (.ref b8), .val (.int ((p1 &&& (2147483647 : Int32)) % (7 : Int32))), .val (.int (((p1 &&& (2147483647 : Int32)) % (7 : Int32)) + ((p2 &&& (2147483647 : Int32)) % ((7 : Int32) - ((p1 &&& (2147483647 : Int32)) % (7 : Int32)))))), .val (.int (0 : Int32)), .unset, .unset, .unset] [(.int (0 : Int32))])) _
    refine Goes.via (fun t k => XS.iloadN X10.here hx rfl (hb hby at_120) rfl k) ?_
    show Goes p e below (T10.setTop (mkF m 121 #[.val (.int p1), .val (.int p2), .val (.int p3), .val (.int p4), .val (.ref b1), .val (.ref b8), .val (.int ((p1 &&& (2147483647 : Int32)) % (7 : Int32))), .val (.int (((p1 &&& (2147483647 : Int32)) % (7 : Int32)) + ((p2 &&& (2147483647 : Int32)) % ((7 : Int32) - ((p1 &&& (2147483647 : Int32)) % (7 : Int32)))))), .val (.int (0 : Int32)), .unset, .unset, .unset] [(.int p3), (.int (0 : Int32))])) _
    refine Goes.via (fun t k => XS.bipush X10.here hx rfl (hb hby at_121) k) ?_
    show Goes p e below (T10.setTop (mkF m 123 #[.val (.int p1), .val (.int p2), .val (.int p3), .val (.int p4), .val (.ref b1), .val (.ref b8), .val (.int ((p1 &&& (2147483647 : Int32)) % (7 : Int32))), .val (.int (((p1 &&& (2147483647 : Int32)) % (7 : Int32)) + ((p2 &&& (2147483647 : Int32)) % ((7 : Int32) - ((p1 &&& (2147483647 : Int32)) % (7 : Int32)))))), .val (.int (0 : Int32)), .unset, .unset, .unset] [(.int (8 : Int32)), (.int p3), (.int (0 : Int32))])) _
    refine Goes.via (fun t k => XS.iushr X10.here hx rfl (hb hby at_123) rfl k) ?_
    show Goes p e below (T10.setTop (mkF m 124 #[.val (.int p1), .val (.int p2), .val (.int p3), .val (.int p4), .val (.ref b1), .val (.ref b8), .val (.int ((p1 &&& (2147483647 : Int32)) % (7 : Int32))), .val (.int (((p1 &&& (2147483647 : Int32)) % (7 : Int32)) + ((p2 &&& (2147483647 : Int32)) % ((7 : Int32) - ((p1 &&& (2147483647 : Int32)) % (7 : Int32)))))), .val (.int (0 : Int32)), .unset, .unset, .unset] [(.int ((p3.toUInt32 >>> ((8 : Int32) &&& 31).toUInt32).toInt32)), (.int (0 : Int32))])) _
    obtain ⟨Lw11, X11w, N11w⟩ := ownPack X10 N10
    obtain ⟨_, _, ⟨T12, L12, k12, n12⟩, -, X12, S12, sg12, ⟨Lc12, hQ12, l12, y12, z12⟩, st12⟩ := callSS X11w hx (y := (⟨"com/example/beforehand/beforehand/TextPartLengthPinLaw", "makeAfter", "(II)Ljava/lang/String;"⟩ : MethodName)) hown (mvT hZ (hw _ (List.mem_of_getElem? (i := 31) rfl))) (mvT hZ (hw _ (List.mem_of_getElem? (i := 32) rfl))) (mvT hZ (hw _ (List.mem_of_getElem? (i := 33) rfl))) (mvT hZ (hw _ (List.mem_of_getElem? (i := 34) rfl))) (by decide) (ownBackS (W := 0) (I := fun vm => IB Z vm []) (rm7_0 l Z a0 hw [] ((p3.toUInt32 >>> ((8 : Int32) &&& 31).toUInt32).toInt32) w0 T10.heap n0 Z10 O10 St hcH hcw) hZ (fun vm q => hI.warm q) (hw _ (List.mem_of_getElem? (i := 34) rfl)) (hw _ (List.mem_of_getElem? (i := 33) rfl)) (by decide) (by decide)) (g := (mkF m 124 #[.val (.int p1), .val (.int p2), .val (.int p3), .val (.int p4), .val (.ref b1), .val (.ref b8), .val (.int ((p1 &&& (2147483647 : Int32)) % (7 : Int32))), .val (.int (((p1 &&& (2147483647 : Int32)) % (7 : Int32)) + ((p2 &&& (2147483647 : Int32)) % ((7 : Int32) - ((p1 &&& (2147483647 : Int32)) % (7 : Int32)))))), .val (.int (0 : Int32)), .unset, .unset, .unset] [(.int ((p3.toUInt32 >>> ((8 : Int32) &&& 31).toUInt32).toInt32)), (.int (0 : Int32))])) rfl (by rw [hml]; rfl) (argsL := [(.int (0 : Int32)), (.int ((p3.toUInt32 >>> ((8 : Int32) &&& 31).toUInt32).toInt32))]) (rest := []) (lenOf pd_0_1 rfl) rfl (by show 2 * 0 + _ ≤ _; exact Nat.le_of_eq rfl) (hb hby at_124) (fun _ _ => ⟨rfl, rfl, (by decide : 3 + 4 ≤ _), (by decide : 16 + 8 ≤ _)⟩)
    dsimp only [Pt.U, Pt.locs, Pt.cells, Pt.slots] at X12 l12 y12 z12 st12 hQ12 S12 sg12
    subst l12 y12 z12
    obtain ⟨X12f, hS12, hZ12, hown12⟩ := rebS hS hk X12 S12 sg12 hZ hown
    have X12 := X12f
    have hS := hS12
    have hZ := hZ12
    have hown := hown12
    have hk : T12.heap.size ≤ T12.heap.size := Nat.le_refl _
    obtain ⟨r12, t12, kt12, vs12, rfl, N12q, Kc12, Ec12, Cc12, Vq12, Vc12⟩ := hQ12
    have F12_21 := F10_204.keep Kc12 List.not_mem_nil
    have F12_22 := F10_205.keep Kc12
    have F12_23 := Cc10.keep Kc12 List.not_mem_nil
    have F12_24 := Vq10.keep Kc12 List.not_mem_nil
    have F12_25 := Vc10.keep Kc12 List.not_mem_nil
    have K12 : Keep h0 T12.heap [] := K10.trans Kc12 (fun x hx => nomatch hx)
    have Z12 : n0 ≤ T12.heap.size := Nat.le_trans Z10 Kc12.1
    have O12 := O10.keep Kc12 (fun x hx => nomatch hx)
    have N12 := Fr.app N11w N12q
    refine Goes.via (fun t k => st12.trans k) ?_
    show Goes p e below (T12.setTop (mkF m 127 #[.val (.int p1), .val (.int p2), .val (.int p3), .val (.int p4), .val (.ref b1), .val (.ref b8), .val (.int ((p1 &&& (2147483647 : Int32)) % (7 : Int32))), .val (.int (((p1 &&& (2147483647 : Int32)) % (7 : Int32)) + ((p2 &&& (2147483647 : Int32)) % ((7 : Int32) - ((p1 &&& (2147483647 : Int32)) % (7 : Int32)))))), .val (.int (0 : Int32)), .unset, .unset, .unset] [(.ref r12)])) _
    refine Goes.via (fun t k => XS.astore X12.here hx rfl (hb hby at_127) rfl rfl (l' := #[.val (.int p1), .val (.int p2), .val (.int p3), .val (.int p4), .val (.ref b1), .val (.ref b8), .val (.int ((p1 &&& (2147483647 : Int32)) % (7 : Int32))), .val (.int (((p1 &&& (2147483647 : Int32)) % (7 : Int32)) + ((p2 &&& (2147483647 : Int32)) % ((7 : Int32) - ((p1 &&& (2147483647 : Int32)) % (7 : Int32)))))), .val (.int (0 : Int32)), .val (.ref r12), .unset, .unset]) rfl k) ?_
    show Goes p e below (T12.setTop (mkF m 129 #[.val (.int p1), .val (.int p2), .val (.int p3), .val (.int p4), .val (.ref b1), .val (.ref b8), .val (.int ((p1 &&& (2147483647 : Int32)) % (7 : Int32))), .val (.int (((p1 &&& (2147483647 : Int32)) % (7 : Int32)) + ((p2 &&& (2147483647 : Int32)) % ((7 : Int32) - ((p1 &&& (2147483647 : Int32)) % (7 : Int32)))))), .val (.int (0 : Int32)), .val (.ref r12), .unset, .unset] [])) _
    obtain ⟨T13, h13, X13, e13, E13, A13, D13, -, st13⟩ := newO X12 hx hZ hown (hw _ (List.mem_of_getElem? (i := 35) rfl)) (hw _ (List.mem_of_getElem? (i := 36) rfl)) (hw _ (List.mem_of_getElem? (i := 37) rfl)) rfl (g := (mkF m 129 #[.val (.int p1), .val (.int p2), .val (.int p3), .val (.int p4), .val (.ref b1), .val (.ref b8), .val (.int ((p1 &&& (2147483647 : Int32)) % (7 : Int32))), .val (.int (((p1 &&& (2147483647 : Int32)) % (7 : Int32)) + ((p2 &&& (2147483647 : Int32)) % ((7 : Int32) - ((p1 &&& (2147483647 : Int32)) % (7 : Int32)))))), .val (.int (0 : Int32)), .val (.ref r12), .unset, .unset] [])) rfl (hb hby at_129) (by decide) (by decide)
    obtain ⟨b13, g13⟩ : ∃ z, z = T12.heap.size := ⟨_, rfl⟩
    rw [← g13] at A13 D13 st13
    have lt_b1_b13 : b1 < b13 := Nat.lt_of_lt_of_le F12_21.lt (Nat.le_of_eq g13.symm)
    have lt_b8_b13 : b8 < b13 := Nat.lt_of_lt_of_le F12_22.lt (Nat.le_of_eq g13.symm)
    have lt_t10_b13 : t10 < b13 := Nat.lt_of_lt_of_le F12_25.lt (Nat.le_of_eq g13.symm)
    have lt_r12_b13 : r12 < b13 := Nat.lt_of_lt_of_le Ec12.lt (Nat.le_of_eq g13.symm)
    have lt_t12_b13 : t12 < b13 := Nat.lt_of_lt_of_le Vc12.lt (Nat.le_of_eq g13.symm)
    have ge_b13 : n0 ≤ b13 := Nat.le_trans Z12 (Nat.le_of_eq g13.symm)
    have sz_b13 : h0.size ≤ b13 := Nat.le_trans K12.1 (Nat.le_of_eq g13.symm)
    have F13_44 := F12_21.ext E13
    have F13_45 := F12_22.ext E13
    have F13_46 := F12_23.ext E13
    have F13_47 := F12_24.ext E13
    have F13_48 := F12_25.ext E13
    have F13_49 := Ec12.ext E13
    have F13_50 := Cc12.ext E13
    have F13_51 := Vq12.ext E13
    have F13_52 := Vc12.ext E13
    have K13 : Keep h0 h13 [] := K12.ext E13
    have Z13 : n0 ≤ h13.size := Nat.le_trans Z12 E13.1
    have O13 := O12.ext E13
    have hk := Nat.le_trans hk E13.1
    have F13_text : Fld Z h13 b13 "com/example/beforehand/beforehand/TextPart" "text" "Ljava/lang/CharSequence;" .null := D13 (Or.inr (hw _ (List.mem_of_getElem? (i := 48) rfl))) (ty := (.object "java/lang/CharSequence")) (by decide)
    have F13_from : Fld Z h13 b13 "com/example/beforehand/beforehand/TextPart" "from" "I" (.int (0 : Int32)) := D13 (Or.inr (hw _ (List.mem_of_getElem? (i := 50) rfl))) (ty := .int) (by decide)
    have F13_end : Fld Z h13 b13 "com/example/beforehand/beforehand/TextPart" "end" "I" (.int (0 : Int32)) := D13 (Or.inr (hw _ (List.mem_of_getElem? (i := 52) rfl))) (ty := .int) (by decide)
    have F13_after : Fld Z h13 b13 "com/example/beforehand/beforehand/TextPart" "after" "Ljava/lang/String;" .null := D13 (Or.inr (hw _ (List.mem_of_getElem? (i := 54) rfl))) (ty := (.object "java/lang/String")) (by decide)
    refine Goes.via st13 ?_
    show Goes p e below (T13.setTop (mkF m 132 #[.val (.int p1), .val (.int p2), .val (.int p3), .val (.int p4), .val (.ref b1), .val (.ref b8), .val (.int ((p1 &&& (2147483647 : Int32)) % (7 : Int32))), .val (.int (((p1 &&& (2147483647 : Int32)) % (7 : Int32)) + ((p2 &&& (2147483647 : Int32)) % ((7 : Int32) - ((p1 &&& (2147483647 : Int32)) % (7 : Int32)))))), .val (.int (0 : Int32)), .val (.ref r12), .unset, .unset] [(.ref b13)])) _
    refine Goes.via (fun t k => XS.dup X13.here hx rfl (hb hby at_132) rfl rfl k) ?_
    show Goes p e below (T13.setTop (mkF m 133 #[.val (.int p1), .val (.int p2), .val (.int p3), .val (.int p4), .val (.ref b1), .val (.ref b8), .val (.int ((p1 &&& (2147483647 : Int32)) % (7 : Int32))), .val (.int (((p1 &&& (2147483647 : Int32)) % (7 : Int32)) + ((p2 &&& (2147483647 : Int32)) % ((7 : Int32) - ((p1 &&& (2147483647 : Int32)) % (7 : Int32)))))), .val (.int (0 : Int32)), .val (.ref r12), .unset, .unset] [(.ref b13), (.ref b13)])) _
    refine Goes.via (fun t k => XS.aload X13.here hx rfl (hb hby at_133) rfl rfl k) ?_
    show Goes p e below (T13.setTop (mkF m 135 #[.val (.int p1), .val (.int p2), .val (.int p3), .val (.int p4), .val (.ref b1), .val (.ref b8), .val (.int ((p1 &&& (2147483647 : Int32)) % (7 : Int32))), .val (.int (((p1 &&& (2147483647 : Int32)) % (7 : Int32)) + ((p2 &&& (2147483647 : Int32)) % ((7 : Int32) - ((p1 &&& (2147483647 : Int32)) % (7 : Int32)))))), .val (.int (0 : Int32)), .val (.ref r12), .unset, .unset] [(.ref b8), (.ref b13), (.ref b13)])) _
    refine Goes.via (fun t k => XS.iload X13.here hx rfl (hb hby at_135) rfl k) ?_
    show Goes p e below (T13.setTop (mkF m 137 #[.val (.int p1), .val (.int p2), .val (.int p3), .val (.int p4), .val (.ref b1), .val (.ref b8), .val (.int ((p1 &&& (2147483647 : Int32)) % (7 : Int32))), .val (.int (((p1 &&& (2147483647 : Int32)) % (7 : Int32)) + ((p2 &&& (2147483647 : Int32)) % ((7 : Int32) - ((p1 &&& (2147483647 : Int32)) % (7 : Int32)))))), .val (.int (0 : Int32)), .val (.ref r12), .unset, .unset] [(.int ((p1 &&& (2147483647 : Int32)) % (7 : Int32))), (.ref b8), (.ref b13), (.ref b13)])) _
    refine Goes.via (fun t k => XS.iload X13.here hx rfl (hb hby at_137) rfl k) ?_
    show Goes p e below (T13.setTop (mkF m 139 #[.val (.int p1), .val (.int p2), .val (.int p3), .val (.int p4), .val (.ref b1), .val (.ref b8), .val (.int ((p1 &&& (2147483647 : Int32)) % (7 : Int32))), .val (.int (((p1 &&& (2147483647 : Int32)) % (7 : Int32)) + ((p2 &&& (2147483647 : Int32)) % ((7 : Int32) - ((p1 &&& (2147483647 : Int32)) % (7 : Int32)))))), .val (.int (0 : Int32)), .val (.ref r12), .unset, .unset] [(.int (((p1 &&& (2147483647 : Int32)) % (7 : Int32)) + ((p2 &&& (2147483647 : Int32)) % ((7 : Int32) - ((p1 &&& (2147483647 : Int32)) % (7 : Int32)))))), (.int ((p1 &&& (2147483647 : Int32)) % (7 : Int32))), (.ref b8), (.ref b13), (.ref b13)])) _
    refine Goes.via (fun t k => XS.aload X13.here hx rfl (hb hby at_139) rfl rfl k) ?_
    show Goes p e below (T13.setTop (mkF m 141 #[.val (.int p1), .val (.int p2), .val (.int p3), .val (.int p4), .val (.ref b1), .val (.ref b8), .val (.int ((p1 &&& (2147483647 : Int32)) % (7 : Int32))), .val (.int (((p1 &&& (2147483647 : Int32)) % (7 : Int32)) + ((p2 &&& (2147483647 : Int32)) % ((7 : Int32) - ((p1 &&& (2147483647 : Int32)) % (7 : Int32)))))), .val (.int (0 : Int32)), .val (.ref r12), .unset, .unset] [(.ref r12), (.int (((p1 &&& (2147483647 : Int32)) % (7 : Int32)) + ((p2 &&& (2147483647 : Int32)) % ((7 : Int32) - ((p1 &&& (2147483647 : Int32)) % (7 : Int32)))))), (.int ((p1 &&& (2147483647 : Int32)) % (7 : Int32))), (.ref b8), (.ref b13), (.ref b13)])) _
    try clear size; try clear heap; try clear g13; try clear st13; try clear D13; try clear E13; try clear O12; try clear Z12; try clear K12; try clear F12_25; try clear F12_24; try clear F12_23
    try clear F12_22; try clear F12_21; try clear Vc12; try clear Vq12; try clear Cc12; try clear Ec12; try clear Kc12; try clear N12q; try clear vs12; try clear hown12; try clear hZ12; try clear hS12
    try clear X12f; try clear st12; try clear z12; try clear y12; try clear l12; try clear hQ12; try clear Lc12; try clear sg12; try clear S12; try clear X12; try clear n12; try clear k12
    try clear L12; try clear T12; try clear N11w; try clear X11w; try clear Lw11; try clear N10; try clear O10; try clear Z10; try clear K10; try clear F10_205; try clear F10_204; try clear Vc10
    try clear Vq10; try clear zt10; try clear Cc10; try clear Ec10; try clear Kc10; try clear N10q; try clear st10; try clear z10; try clear y10; try clear l10; try clear hQ10; try clear Lc10
    try clear X10; try clear n10; try clear k10; try clear L10; try clear T10; try clear N9w; try clear X9w; try clear Lw9; try clear F8_value; try clear F8_coder; try clear O8; try clear Z8
    try clear K8; try clear F8_172; try clear A8; try clear e8; try clear X8; try clear h8; try clear T8; try clear N7
    obtain ⟨Lw14, X14w, N14w⟩ := ownPack X13 N12
    obtain ⟨_, _, ⟨T15, L15, k15, n15⟩, -, X15, ⟨Lc15, hQ15, l15, y15, z15⟩, st15⟩ := X14w.specialBack hx (y := (⟨"com/example/beforehand/beforehand/TextPart", "<init>", "(Ljava/lang/CharSequence;IILjava/lang/String;)V"⟩ : MethodName)) rfl hown (mvT hZ (hw _ (List.mem_of_getElem? (i := 38) rfl))) (mvT hZ (hw _ (List.mem_of_getElem? (i := 39) rfl))) (mvT hZ (hw _ (List.mem_of_getElem? (i := 40) rfl))) (by decide) (backOf (W := 1) (rm8 l Z a0 hw [] b13 b8 ((p1 &&& (2147483647 : Int32)) % (7 : Int32)) (((p1 &&& (2147483647 : Int32)) % (7 : Int32)) + ((p2 &&& (2147483647 : Int32)) % ((7 : Int32) - ((p1 &&& (2147483647 : Int32)) % (7 : Int32))))) r12  h13 n0 Z13 A13 F13_text F13_from F13_end F13_after ge_b13) hZ (hw _ (List.mem_of_getElem? (i := 40) rfl)) (hw _ (List.mem_of_getElem? (i := 37) rfl)) (by decide) (by decide)) (g := (mkF m 141 #[.val (.int p1), .val (.int p2), .val (.int p3), .val (.int p4), .val (.ref b1), .val (.ref b8), .val (.int ((p1 &&& (2147483647 : Int32)) % (7 : Int32))), .val (.int (((p1 &&& (2147483647 : Int32)) % (7 : Int32)) + ((p2 &&& (2147483647 : Int32)) % ((7 : Int32) - ((p1 &&& (2147483647 : Int32)) % (7 : Int32)))))), .val (.int (0 : Int32)), .val (.ref r12), .unset, .unset] [(.ref r12), (.int (((p1 &&& (2147483647 : Int32)) % (7 : Int32)) + ((p2 &&& (2147483647 : Int32)) % ((7 : Int32) - ((p1 &&& (2147483647 : Int32)) % (7 : Int32)))))), (.int ((p1 &&& (2147483647 : Int32)) % (7 : Int32))), (.ref b8), (.ref b13), (.ref b13)])) rfl (by rw [hml]; rfl) (Steps.refl _) (a := b13) (argsL := [(.ref b8), (.int ((p1 &&& (2147483647 : Int32)) % (7 : Int32))), (.int (((p1 &&& (2147483647 : Int32)) % (7 : Int32)) + ((p2 &&& (2147483647 : Int32)) % ((7 : Int32) - ((p1 &&& (2147483647 : Int32)) % (7 : Int32)))))), (.ref r12)]) (rest := [(.ref b13)]) (lenOf pd_0_2 rfl) rfl (by show 2 * 0 + _ ≤ _; exact Nat.le_of_eq rfl) (hb hby at_141) (fun _ _ => ⟨rfl, e13, (by decide : 8 + 0 ≤ _), (by decide : 28 + 0 ≤ _)⟩)
    dsimp only [Pt.U, Pt.locs, Pt.cells, Pt.slots] at X15 l15 y15 z15 st15 hQ15
    subst l15 y15 z15
    obtain ⟨rfl, N15q, Kc15, Ff15, Fe15, Fa15⟩ := hQ15
    have F15_85 := F13_44.keep Kc15 (fun q => (Nat.ne_of_lt lt_b1_b13) (List.mem_singleton.mp q))
    have F15_86 := F13_45.keep Kc15
    have F15_87 := F13_46.keep Kc15 (fun q => (Nat.ne_of_lt lt_b8_b13) (List.mem_singleton.mp q))
    have F15_88 := F13_47.keep Kc15 (fun q => (Nat.ne_of_lt lt_b8_b13) (List.mem_singleton.mp q))
    have F15_89 := F13_48.keep Kc15 (fun q => (Nat.ne_of_lt lt_t10_b13) (List.mem_singleton.mp q))
    have F15_90 := F13_49.keep Kc15
    have F15_91 := F13_50.keep Kc15 (fun q => (Nat.ne_of_lt lt_r12_b13) (List.mem_singleton.mp q))
    have F15_92 := F13_51.keep Kc15 (fun q => (Nat.ne_of_lt lt_r12_b13) (List.mem_singleton.mp q))
    have F15_93 := F13_52.keep Kc15 (fun q => (Nat.ne_of_lt lt_t12_b13) (List.mem_singleton.mp q))
    have F15_94 := A13.keep Kc15
    have K15 : Keep h0 T15.heap [] := K13.trans Kc15 (fun x hx => by cases List.mem_singleton.mp hx; exact Or.inr sz_b13)
    have Z15 : n0 ≤ T15.heap.size := Nat.le_trans Z13 Kc15.1
    have O15 := O13.keep Kc15 (fun x hx => by cases List.mem_singleton.mp hx; exact ge_b13)
    have hk := Nat.le_trans hk Kc15.1
    have N15 := Fr.app N14w N15q
    refine Goes.via (fun t k => st15.trans k) ?_
    show Goes p e below (T15.setTop (mkF m 144 #[.val (.int p1), .val (.int p2), .val (.int p3), .val (.int p4), .val (.ref b1), .val (.ref b8), .val (.int ((p1 &&& (2147483647 : Int32)) % (7 : Int32))), .val (.int (((p1 &&& (2147483647 : Int32)) % (7 : Int32)) + ((p2 &&& (2147483647 : Int32)) % ((7 : Int32) - ((p1 &&& (2147483647 : Int32)) % (7 : Int32)))))), .val (.int (0 : Int32)), .val (.ref r12), .unset, .unset] [(.ref b13)])) _
    refine Goes.via (fun t k => XS.astore X15.here hx rfl (hb hby at_144) rfl rfl (l' := #[.val (.int p1), .val (.int p2), .val (.int p3), .val (.int p4), .val (.ref b1), .val (.ref b8), .val (.int ((p1 &&& (2147483647 : Int32)) % (7 : Int32))), .val (.int (((p1 &&& (2147483647 : Int32)) % (7 : Int32)) + ((p2 &&& (2147483647 : Int32)) % ((7 : Int32) - ((p1 &&& (2147483647 : Int32)) % (7 : Int32)))))), .val (.int (0 : Int32)), .val (.ref r12), .val (.ref b13), .unset]) rfl k) ?_
    show Goes p e below (T15.setTop (mkF m 146 #[.val (.int p1), .val (.int p2), .val (.int p3), .val (.int p4), .val (.ref b1), .val (.ref b8), .val (.int ((p1 &&& (2147483647 : Int32)) % (7 : Int32))), .val (.int (((p1 &&& (2147483647 : Int32)) % (7 : Int32)) + ((p2 &&& (2147483647 : Int32)) % ((7 : Int32) - ((p1 &&& (2147483647 : Int32)) % (7 : Int32)))))), .val (.int (0 : Int32)), .val (.ref r12), .val (.ref b13), .unset] [])) _
    refine Goes.via (fun t k => XS.iload X15.here hx rfl (hb hby at_146) rfl k) ?_
    show Goes p e below (T15.setTop (mkF m 148 #[.val (.int p1), .val (.int p2), .val (.int p3), .val (.int p4), .val (.ref b1), .val (.ref b8), .val (.int ((p1 &&& (2147483647 : Int32)) % (7 : Int32))), .val (.int (((p1 &&& (2147483647 : Int32)) % (7 : Int32)) + ((p2 &&& (2147483647 : Int32)) % ((7 : Int32) - ((p1 &&& (2147483647 : Int32)) % (7 : Int32)))))), .val (.int (0 : Int32)), .val (.ref r12), .val (.ref b13), .unset] [(.int (((p1 &&& (2147483647 : Int32)) % (7 : Int32)) + ((p2 &&& (2147483647 : Int32)) % ((7 : Int32) - ((p1 &&& (2147483647 : Int32)) % (7 : Int32))))))])) _
    refine Goes.via (fun t k => XS.iload X15.here hx rfl (hb hby at_148) rfl k) ?_
    show Goes p e below (T15.setTop (mkF m 150 #[.val (.int p1), .val (.int p2), .val (.int p3), .val (.int p4), .val (.ref b1), .val (.ref b8), .val (.int ((p1 &&& (2147483647 : Int32)) % (7 : Int32))), .val (.int (((p1 &&& (2147483647 : Int32)) % (7 : Int32)) + ((p2 &&& (2147483647 : Int32)) % ((7 : Int32) - ((p1 &&& (2147483647 : Int32)) % (7 : Int32)))))), .val (.int (0 : Int32)), .val (.ref r12), .val (.ref b13), .unset] [(.int ((p1 &&& (2147483647 : Int32)) % (7 : Int32))), (.int (((p1 &&& (2147483647 : Int32)) % (7 : Int32)) + ((p2 &&& (2147483647 : Int32)) % ((7 : Int32) - ((p1 &&& (2147483647 : Int32)) % (7 : Int32))))))])) _
    refine Goes.via (fun t k => XS.isub X15.here hx rfl (hb hby at_150) rfl k) ?_
    show Goes p e below (T15.setTop (mkF m 151 #[.val (.int p1), .val (.int p2), .val (.int p3), .val (.int p4), .val (.ref b1), .val (.ref b8), .val (.int ((p1 &&& (2147483647 : Int32)) % (7 : Int32))), .val (.int (((p1 &&& (2147483647 : Int32)) % (7 : Int32)) + ((p2 &&& (2147483647 : Int32)) % ((7 : Int32) - ((p1 &&& (2147483647 : Int32)) % (7 : Int32)))))), .val (.int (0 : Int32)), .val (.ref r12), .val (.ref b13), .unset] [(.int ((((p1 &&& (2147483647 : Int32)) % (7 : Int32)) + ((p2 &&& (2147483647 : Int32)) % ((7 : Int32) - ((p1 &&& (2147483647 : Int32)) % (7 : Int32))))) - ((p1 &&& (2147483647 : Int32)) % (7 : Int32))))])) _
    refine Goes.via (fun t k => XS.iload X15.here hx rfl (hb hby at_151) rfl k) ?_
    show Goes p e below (T15.setTop (mkF m 153 #[.val (.int p1), .val (.int p2), .val (.int p3), .val (.int p4), .val (.ref b1), .val (.ref b8), .val (.int ((p1 &&& (2147483647 : Int32)) % (7 : Int32))), .val (.int (((p1 &&& (2147483647 : Int32)) % (7 : Int32)) + ((p2 &&& (2147483647 : Int32)) % ((7 : Int32) - ((p1 &&& (2147483647 : Int32)) % (7 : Int32)))))), .val (.int (0 : Int32)), .val (.ref r12), .val (.ref b13), .unset] [(.int (0 : Int32)), (.int ((((p1 &&& (2147483647 : Int32)) % (7 : Int32)) + ((p2 &&& (2147483647 : Int32)) % ((7 : Int32) - ((p1 &&& (2147483647 : Int32)) % (7 : Int32))))) - ((p1 &&& (2147483647 : Int32)) % (7 : Int32))))])) _
    refine Goes.via (fun t k => XS.iadd X15.here hx rfl (hb hby at_153) rfl k) ?_
    show Goes p e below (T15.setTop (mkF m 154 #[.val (.int p1), .val (.int p2), .val (.int p3), .val (.int p4), .val (.ref b1), .val (.ref b8), .val (.int ((p1 &&& (2147483647 : Int32)) % (7 : Int32))), .val (.int (((p1 &&& (2147483647 : Int32)) % (7 : Int32)) + ((p2 &&& (2147483647 : Int32)) % ((7 : Int32) - ((p1 &&& (2147483647 : Int32)) % (7 : Int32)))))), .val (.int (0 : Int32)), .val (.ref r12), .val (.ref b13), .unset] [(.int (((((p1 &&& (2147483647 : Int32)) % (7 : Int32)) + ((p2 &&& (2147483647 : Int32)) % ((7 : Int32) - ((p1 &&& (2147483647 : Int32)) % (7 : Int32))))) - ((p1 &&& (2147483647 : Int32)) % (7 : Int32))) + (0 : Int32)))])) _
    refine Goes.via (fun t k => XS.istore X15.here hx rfl (hb hby at_154) rfl (l' := #[.val (.int p1), .val (.int p2), .val (.int p3), .val (.int p4), .val (.ref b1), .val (.ref b8), .val (.int ((p1 &&& (2147483647 : Int32)) % (7 : Int32))), .val (.int (((p1 &&& (2147483647 : Int32)) % (7 : Int32)) + ((p2 &&& (2147483647 : Int32)) % ((7 : Int32) - ((p1 &&& (2147483647 : Int32)) % (7 : Int32)))))), .val (.int (0 : Int32)), .val (.ref r12), .val (.ref b13), .val (.int (((((p1 &&& (2147483647 : Int32)) % (7 : Int32)) + ((p2 &&& (2147483647 : Int32)) % ((7 : Int32) - ((p1 &&& (2147483647 : Int32)) % (7 : Int32))))) - ((p1 &&& (2147483647 : Int32)) % (7 : Int32))) + (0 : Int32)))]) rfl k) ?_
    show Goes p e below (T15.setTop (mkF m 156 #[.val (.int p1), .val (.int p2), .val (.int p3), .val (.int p4), .val (.ref b1), .val (.ref b8), .val (.int ((p1 &&& (2147483647 : Int32)) % (7 : Int32))), .val (.int (((p1 &&& (2147483647 : Int32)) % (7 : Int32)) + ((p2 &&& (2147483647 : Int32)) % ((7 : Int32) - ((p1 &&& (2147483647 : Int32)) % (7 : Int32)))))), .val (.int (0 : Int32)), .val (.ref r12), .val (.ref b13), .val (.int (((((p1 &&& (2147483647 : Int32)) % (7 : Int32)) + ((p2 &&& (2147483647 : Int32)) % ((7 : Int32) - ((p1 &&& (2147483647 : Int32)) % (7 : Int32))))) - ((p1 &&& (2147483647 : Int32)) % (7 : Int32))) + (0 : Int32)))] [])) _
    refine Goes.via (fun t k => XS.aload X15.here hx rfl (hb hby at_156) rfl rfl k) ?_
    show Goes p e below (T15.setTop (mkF m 158 #[.val (.int p1), .val (.int p2), .val (.int p3), .val (.int p4), .val (.ref b1), .val (.ref b8), .val (.int ((p1 &&& (2147483647 : Int32)) % (7 : Int32))), .val (.int (((p1 &&& (2147483647 : Int32)) % (7 : Int32)) + ((p2 &&& (2147483647 : Int32)) % ((7 : Int32) - ((p1 &&& (2147483647 : Int32)) % (7 : Int32)))))), .val (.int (0 : Int32)), .val (.ref r12), .val (.ref b13), .val (.int (((((p1 &&& (2147483647 : Int32)) % (7 : Int32)) + ((p2 &&& (2147483647 : Int32)) % ((7 : Int32) - ((p1 &&& (2147483647 : Int32)) % (7 : Int32))))) - ((p1 &&& (2147483647 : Int32)) % (7 : Int32))) + (0 : Int32)))] [(.ref b13)])) _
    try clear Kc15; try clear N15q; try clear st15; try clear z15; try clear y15; try clear l15; try clear hQ15; try clear Lc15; try clear n15; try clear k15; try clear L15; try clear N14w
    try clear X14w; try clear Lw14; try clear F13_after; try clear F13_end; try clear F13_from; try clear F13_text; try clear O13; try clear Z13; try clear K13; try clear F13_52; try clear F13_51; try clear F13_50
    try clear F13_49; try clear F13_48; try clear F13_47; try clear F13_46; try clear F13_45; try clear F13_44; try clear A13; try clear e13; try clear X13; try clear h13; try clear T13; try clear N12
    obtain ⟨Lw16, X16w, N16w⟩ := ownPack X15 N15
    obtain ⟨cq17, kq17, q17a, q17b, q17c⟩ := isOf hZ rfl F15_94
    obtain ⟨_, _, ⟨T17, L17, k17, n17⟩, -, X17, ⟨Lc17, hQ17, l17, y17, z17⟩, st17⟩ := X16w.virtualBack hx (y := (⟨"com/example/beforehand/beforehand/TextPart", "length", "()I"⟩ : MethodName)) (z := (⟨"com/example/beforehand/beforehand/TextPart", "length", "()I"⟩ : MethodName)) hown (mvT hZ (hw _ (List.mem_of_getElem? (i := 55) rfl))) (mvT hZ (hw _ (List.mem_of_getElem? (i := 56) rfl))) (notFace_of_selects (args := #[]) (mvT hZ (hw _ (List.mem_of_getElem? (i := 58) rfl)))) (mvT hZ (hw _ (List.mem_of_getElem? (i := 58) rfl))) (mvT hZ (hw _ (List.mem_of_getElem? (i := 57) rfl))) (by decide) (backOf (W := 0) (rm10_0 l Z a0 hw [] b13 ((p1 &&& (2147483647 : Int32)) % (7 : Int32)) (((p1 &&& (2147483647 : Int32)) % (7 : Int32)) + ((p2 &&& (2147483647 : Int32)) % ((7 : Int32) - ((p1 &&& (2147483647 : Int32)) % (7 : Int32))))) r12 t12 kt12 _ w0 T15.heap n0 Z15 Ff15 Fe15 Fa15 F15_90 F15_92 F15_91 F15_93 O15 St) hZ (hw _ (List.mem_of_getElem? (i := 59) rfl)) (hw _ (List.mem_of_getElem? (i := 37) rfl)) (by decide) (by decide)) q17a q17c (g := (mkF m 158 #[.val (.int p1), .val (.int p2), .val (.int p3), .val (.int p4), .val (.ref b1), .val (.ref b8), .val (.int ((p1 &&& (2147483647 : Int32)) % (7 : Int32))), .val (.int (((p1 &&& (2147483647 : Int32)) % (7 : Int32)) + ((p2 &&& (2147483647 : Int32)) % ((7 : Int32) - ((p1 &&& (2147483647 : Int32)) % (7 : Int32)))))), .val (.int (0 : Int32)), .val (.ref r12), .val (.ref b13), .val (.int (((((p1 &&& (2147483647 : Int32)) % (7 : Int32)) + ((p2 &&& (2147483647 : Int32)) % ((7 : Int32) - ((p1 &&& (2147483647 : Int32)) % (7 : Int32))))) - ((p1 &&& (2147483647 : Int32)) % (7 : Int32))) + (0 : Int32)))] [(.ref b13)])) rfl (by rw [hml]; rfl) (Steps.refl _) (argsL := []) (rest := []) (lenOf pd_0_3 rfl) rfl (by show 2 * 0 + _ ≤ _; exact Nat.le_of_eq rfl) (hb hby at_158) (fun _ _ => ⟨rfl, rfl, (by decide : 8 + 0 ≤ _), (by decide : 28 + 0 ≤ _)⟩)
    dsimp only [Pt.U, Pt.locs, Pt.cells, Pt.slots] at X17 l17 y17 z17 st17 hQ17
    subst l17 y17 z17
    obtain ⟨rfl, N17q, er17⟩ := hQ17
    have e17 : T17.heap = T15.heap := er17
    have N17 := Fr.app N16w N17q
    refine Goes.via (fun t k => st17.trans k) ?_
    show Goes p e below (T17.setTop (mkF m 161 #[.val (.int p1), .val (.int p2), .val (.int p3), .val (.int p4), .val (.ref b1), .val (.ref b8), .val (.int ((p1 &&& (2147483647 : Int32)) % (7 : Int32))), .val (.int (((p1 &&& (2147483647 : Int32)) % (7 : Int32)) + ((p2 &&& (2147483647 : Int32)) % ((7 : Int32) - ((p1 &&& (2147483647 : Int32)) % (7 : Int32)))))), .val (.int (0 : Int32)), .val (.ref r12), .val (.ref b13), .val (.int (((((p1 &&& (2147483647 : Int32)) % (7 : Int32)) + ((p2 &&& (2147483647 : Int32)) % ((7 : Int32) - ((p1 &&& (2147483647 : Int32)) % (7 : Int32))))) - ((p1 &&& (2147483647 : Int32)) % (7 : Int32))) + (0 : Int32)))] [(.int (((((p1 &&& (2147483647 : Int32)) % (7 : Int32)) + ((p2 &&& (2147483647 : Int32)) % ((7 : Int32) - ((p1 &&& (2147483647 : Int32)) % (7 : Int32))))) - ((p1 &&& (2147483647 : Int32)) % (7 : Int32))) + (0 : Int32)))])) _
    refine Goes.via (fun t k => XS.iload X17.here hx rfl (hb hby at_161) rfl k) ?_
    show Goes p e below (T17.setTop (mkF m 163 #[.val (.int p1), .val (.int p2), .val (.int p3), .val (.int p4), .val (.ref b1), .val (.ref b8), .val (.int ((p1 &&& (2147483647 : Int32)) % (7 : Int32))), .val (.int (((p1 &&& (2147483647 : Int32)) % (7 : Int32)) + ((p2 &&& (2147483647 : Int32)) % ((7 : Int32) - ((p1 &&& (2147483647 : Int32)) % (7 : Int32)))))), .val (.int (0 : Int32)), .val (.ref r12), .val (.ref b13), .val (.int (((((p1 &&& (2147483647 : Int32)) % (7 : Int32)) + ((p2 &&& (2147483647 : Int32)) % ((7 : Int32) - ((p1 &&& (2147483647 : Int32)) % (7 : Int32))))) - ((p1 &&& (2147483647 : Int32)) % (7 : Int32))) + (0 : Int32)))] [(.int (((((p1 &&& (2147483647 : Int32)) % (7 : Int32)) + ((p2 &&& (2147483647 : Int32)) % ((7 : Int32) - ((p1 &&& (2147483647 : Int32)) % (7 : Int32))))) - ((p1 &&& (2147483647 : Int32)) % (7 : Int32))) + (0 : Int32))), (.int (((((p1 &&& (2147483647 : Int32)) % (7 : Int32)) + ((p2 &&& (2147483647 : Int32)) % ((7 : Int32) - ((p1 &&& (2147483647 : Int32)) % (7 : Int32))))) - ((p1 &&& (2147483647 : Int32)) % (7 : Int32))) + (0 : Int32)))])) _
    refine Goes.via (fun t k => XS.icmpNo X17.here hx rfl (hb hby at_163) rfl (teq (show (((((p1 &&& (2147483647 : Int32)) % (7 : Int32)) + ((p2 &&& (2147483647 : Int32)) % ((7 : Int32) - ((p1 &&& (2147483647 : Int32)) % (7 : Int32))))) - ((p1 &&& (2147483647 : Int32)) % (7 : Int32))) + (0 : Int32)) = (((((p1 &&& (2147483647 : Int32)) % (7 : Int32)) + ((p2 &&& (2147483647 : Int32)) % ((7 : Int32) - ((p1 &&& (2147483647 : Int32)) % (7 : Int32))))) - ((p1 &&& (2147483647 : Int32)) % (7 : Int32))) + (0 : Int32)) from rfl)).2 k) ?_
    show Goes p e below (T17.setTop (mkF m 166 #[.val (.int p1), .val (.int p2), .val (.int p3), .val (.int p4), .val (.ref b1), .val (.ref b8), .val (.int ((p1 &&& (2147483647 : Int32)) % (7 : Int32))), .val (.int (((p1 &&& (2147483647 : Int32)) % (7 : Int32)) + ((p2 &&& (2147483647 : Int32)) % ((7 : Int32) - ((p1 &&& (2147483647 : Int32)) % (7 : Int32)))))), .val (.int (0 : Int32)), .val (.ref r12), .val (.ref b13), .val (.int (((((p1 &&& (2147483647 : Int32)) % (7 : Int32)) + ((p2 &&& (2147483647 : Int32)) % ((7 : Int32) - ((p1 &&& (2147483647 : Int32)) % (7 : Int32))))) - ((p1 &&& (2147483647 : Int32)) % (7 : Int32))) + (0 : Int32)))] [])) _
    refine Goes.via (fun t k => XS.iconst X17.here hx rfl (hb hby at_166) k) ?_
    show Goes p e below (T17.setTop (mkF m 167 #[.val (.int p1), .val (.int p2), .val (.int p3), .val (.int p4), .val (.ref b1), .val (.ref b8), .val (.int ((p1 &&& (2147483647 : Int32)) % (7 : Int32))), .val (.int (((p1 &&& (2147483647 : Int32)) % (7 : Int32)) + ((p2 &&& (2147483647 : Int32)) % ((7 : Int32) - ((p1 &&& (2147483647 : Int32)) % (7 : Int32)))))), .val (.int (0 : Int32)), .val (.ref r12), .val (.ref b13), .val (.int (((((p1 &&& (2147483647 : Int32)) % (7 : Int32)) + ((p2 &&& (2147483647 : Int32)) % ((7 : Int32) - ((p1 &&& (2147483647 : Int32)) % (7 : Int32))))) - ((p1 &&& (2147483647 : Int32)) % (7 : Int32))) + (0 : Int32)))] [(.int (1 : Int32))])) _
    refine Goes.via (fun t k => XS.goto X17.here hx rfl (pc0 := 167) (pc' := 171) rfl (hb hby at_167) (by decide) (by decide) k) ?_
    show Goes p e below (T17.setTop (mkF m 171 #[.val (.int p1), .val (.int p2), .val (.int p3), .val (.int p4), .val (.ref b1), .val (.ref b8), .val (.int ((p1 &&& (2147483647 : Int32)) % (7 : Int32))), .val (.int (((p1 &&& (2147483647 : Int32)) % (7 : Int32)) + ((p2 &&& (2147483647 : Int32)) % ((7 : Int32) - ((p1 &&& (2147483647 : Int32)) % (7 : Int32)))))), .val (.int (0 : Int32)), .val (.ref r12), .val (.ref b13), .val (.int (((((p1 &&& (2147483647 : Int32)) % (7 : Int32)) + ((p2 &&& (2147483647 : Int32)) % ((7 : Int32) - ((p1 &&& (2147483647 : Int32)) % (7 : Int32))))) - ((p1 &&& (2147483647 : Int32)) % (7 : Int32))) + (0 : Int32)))] [(.int (1 : Int32))])) _
    obtain ⟨fs, hr, hrun, hended, hRE⟩ := X17.leaveW hS (by rw [e17]; exact hk) (v := some (.int (1 : Int32))) (fun h => by rw [Bd.returns] at h; cases h)
    refine ⟨_, _, ?_, hrun, hended, _, _, rfl, ?_, hRE.1, hRE.2.1, hRE.2.2.1, hRE.2.2.2.mono (by decide) (by decide)⟩
    · exact retN X17 hx (t := .boolean) Bd.returns (by simp) (hb hby at_171) hr
    · show Q0 Z  h0 n0 _ T17.heap _ _
      rw [e17]
      exact ⟨rfl, N17⟩
  · rw [hl]
    show Goes p e below (T10.setTop (mkF m 116 #[.val (.int p1), .val (.int p2), .val (.int p3), .val (.int p4), .val (.ref b1), .val (.ref b8), .val (.int ((p1 &&& (2147483647 : Int32)) % (7 : Int32))), .val (.int (((p1 &&& (2147483647 : Int32)) % (7 : Int32)) + ((p2 &&& (2147483647 : Int32)) % ((7 : Int32) - ((p1 &&& (2147483647 : Int32)) % (7 : Int32)))))), .unset, .unset, .unset, .unset] [(.int (1 : Int32))])) _
    refine Goes.via (fun t k => XS.istore X10.here hx rfl (hb hby at_116) rfl (l' := #[.val (.int p1), .val (.int p2), .val (.int p3), .val (.int p4), .val (.ref b1), .val (.ref b8), .val (.int ((p1 &&& (2147483647 : Int32)) % (7 : Int32))), .val (.int (((p1 &&& (2147483647 : Int32)) % (7 : Int32)) + ((p2 &&& (2147483647 : Int32)) % ((7 : Int32) - ((p1 &&& (2147483647 : Int32)) % (7 : Int32)))))), .val (.int (1 : Int32)), .unset, .unset, .unset]) rfl k) ?_
    show Goes p e below (T10.setTop (mkF m 118 #[.val (.int p1), .val (.int p2), .val (.int p3), .val (.int p4), .val (.ref b1), .val (.ref b8), .val (.int ((p1 &&& (2147483647 : Int32)) % (7 : Int32))), .val (.int (((p1 &&& (2147483647 : Int32)) % (7 : Int32)) + ((p2 &&& (2147483647 : Int32)) % ((7 : Int32) - ((p1 &&& (2147483647 : Int32)) % (7 : Int32)))))), .val (.int (1 : Int32)), .unset, .unset, .unset] [])) _
    refine Goes.via (fun t k => XS.iload X10.here hx rfl (hb hby at_118) rfl k) ?_
    show Goes p e below (T10.setTop (mkF m 120 #[.val (.int p1), .val (.int p2), .val (.int p3), .val (.int p4), .val (.ref b1), .val (.ref b8), .val (.int ((p1 &&& (2147483647 : Int32)) % (7 : Int32))), .val (.int (((p1 &&& (2147483647 : Int32)) % (7 : Int32)) + ((p2 &&& (2147483647 : Int32)) % ((7 : Int32) - ((p1 &&& (2147483647 : Int32)) % (7 : Int32)))))), .val (.int (1 : Int32)), .unset, .unset, .unset] [(.int (1 : Int32))])) _
    refine Goes.via (fun t k => XS.iloadN X10.here hx rfl (hb hby at_120) rfl k) ?_
    show Goes p e below (T10.setTop (mkF m 121 #[.val (.int p1), .val (.int p2), .val (.int p3), .val (.int p4), .val (.ref b1), .val (.ref b8), .val (.int ((p1 &&& (2147483647 : Int32)) % (7 : Int32))), .val (.int (((p1 &&& (2147483647 : Int32)) % (7 : Int32)) + ((p2 &&& (2147483647 : Int32)) % ((7 : Int32) - ((p1 &&& (2147483647 : Int32)) % (7 : Int32)))))), .val (.int (1 : Int32)), .unset, .unset, .unset] [(.int p3), (.int (1 : Int32))])) _
    refine Goes.via (fun t k => XS.bipush X10.here hx rfl (hb hby at_121) k) ?_
    show Goes p e below (T10.setTop (mkF m 123 #[.val (.int p1), .val (.int p2), .val (.int p3), .val (.int p4), .val (.ref b1), .val (.ref b8), .val (.int ((p1 &&& (2147483647 : Int32)) % (7 : Int32))), .val (.int (((p1 &&& (2147483647 : Int32)) % (7 : Int32)) + ((p2 &&& (2147483647 : Int32)) % ((7 : Int32) - ((p1 &&& (2147483647 : Int32)) % (7 : Int32)))))), .val (.int (1 : Int32)), .unset, .unset, .unset] [(.int (8 : Int32)), (.int p3), (.int (1 : Int32))])) _
    refine Goes.via (fun t k => XS.iushr X10.here hx rfl (hb hby at_123) rfl k) ?_
    show Goes p e below (T10.setTop (mkF m 124 #[.val (.int p1), .val (.int p2), .val (.int p3), .val (.int p4), .val (.ref b1), .val (.ref b8), .val (.int ((p1 &&& (2147483647 : Int32)) % (7 : Int32))), .val (.int (((p1 &&& (2147483647 : Int32)) % (7 : Int32)) + ((p2 &&& (2147483647 : Int32)) % ((7 : Int32) - ((p1 &&& (2147483647 : Int32)) % (7 : Int32)))))), .val (.int (1 : Int32)), .unset, .unset, .unset] [(.int ((p3.toUInt32 >>> ((8 : Int32) &&& 31).toUInt32).toInt32)), (.int (1 : Int32))])) _
    obtain ⟨Lw18, X18w, N18w⟩ := ownPack X10 N10
    obtain ⟨_, _, ⟨T19, L19, k19, n19⟩, -, X19, ⟨Lc19, hQ19, l19, y19, z19⟩, st19⟩ := Jvm.LawKit.callS X18w hx (y := (⟨"com/example/beforehand/beforehand/TextPartLengthPinLaw", "makeAfter", "(II)Ljava/lang/String;"⟩ : MethodName)) hown (mvT hZ (hw _ (List.mem_of_getElem? (i := 31) rfl))) (mvT hZ (hw _ (List.mem_of_getElem? (i := 32) rfl))) (mvT hZ (hw _ (List.mem_of_getElem? (i := 33) rfl))) (mvT hZ (hw _ (List.mem_of_getElem? (i := 34) rfl))) (by decide) (backOf (W := 0) (rm7_1 l Z a0 hw [] ((p3.toUInt32 >>> ((8 : Int32) &&& 31).toUInt32).toInt32) w0 T10.heap n0 Z10 O10 St) hZ (hw _ (List.mem_of_getElem? (i := 34) rfl)) (hw _ (List.mem_of_getElem? (i := 33) rfl)) (by decide) (by decide)) (g := (mkF m 124 #[.val (.int p1), .val (.int p2), .val (.int p3), .val (.int p4), .val (.ref b1), .val (.ref b8), .val (.int ((p1 &&& (2147483647 : Int32)) % (7 : Int32))), .val (.int (((p1 &&& (2147483647 : Int32)) % (7 : Int32)) + ((p2 &&& (2147483647 : Int32)) % ((7 : Int32) - ((p1 &&& (2147483647 : Int32)) % (7 : Int32)))))), .val (.int (1 : Int32)), .unset, .unset, .unset] [(.int ((p3.toUInt32 >>> ((8 : Int32) &&& 31).toUInt32).toInt32)), (.int (1 : Int32))])) rfl (by rw [hml]; rfl) (argsL := [(.int (1 : Int32)), (.int ((p3.toUInt32 >>> ((8 : Int32) &&& 31).toUInt32).toInt32))]) (rest := []) (lenOf pd_0_1 rfl) rfl (by show 2 * 0 + _ ≤ _; exact Nat.le_of_eq rfl) (hb hby at_124) (fun _ _ => ⟨rfl, rfl, (by decide : 3 + 3 ≤ _), (by decide : 16 + 6 ≤ _)⟩)
    dsimp only [Pt.U, Pt.locs, Pt.cells, Pt.slots] at X19 l19 y19 z19 st19 hQ19
    subst l19 y19 z19
    obtain ⟨r19, t19, kt19, vs19, rfl, N19q, Kc19, Ec19, Cc19, Vq19, Vc19⟩ := hQ19
    have F19_15 := F10_204.keep Kc19 List.not_mem_nil
    have F19_16 := F10_205.keep Kc19
    have F19_17 := Cc10.keep Kc19 List.not_mem_nil
    have F19_18 := Vq10.keep Kc19 List.not_mem_nil
    have F19_19 := Vc10.keep Kc19 List.not_mem_nil
    have K19 : Keep h0 T19.heap [] := K10.trans Kc19 (fun x hx => nomatch hx)
    have Z19 : n0 ≤ T19.heap.size := Nat.le_trans Z10 Kc19.1
    have O19 := O10.keep Kc19 (fun x hx => nomatch hx)
    have hk := Nat.le_trans hk Kc19.1
    have N19 := Fr.app N18w N19q
    refine Goes.via st19 ?_
    show Goes p e below (T19.setTop (mkF m 127 #[.val (.int p1), .val (.int p2), .val (.int p3), .val (.int p4), .val (.ref b1), .val (.ref b8), .val (.int ((p1 &&& (2147483647 : Int32)) % (7 : Int32))), .val (.int (((p1 &&& (2147483647 : Int32)) % (7 : Int32)) + ((p2 &&& (2147483647 : Int32)) % ((7 : Int32) - ((p1 &&& (2147483647 : Int32)) % (7 : Int32)))))), .val (.int (1 : Int32)), .unset, .unset, .unset] [(.ref r19)])) _
    refine Goes.via (fun t k => XS.astore X19.here hx rfl (hb hby at_127) rfl rfl (l' := #[.val (.int p1), .val (.int p2), .val (.int p3), .val (.int p4), .val (.ref b1), .val (.ref b8), .val (.int ((p1 &&& (2147483647 : Int32)) % (7 : Int32))), .val (.int (((p1 &&& (2147483647 : Int32)) % (7 : Int32)) + ((p2 &&& (2147483647 : Int32)) % ((7 : Int32) - ((p1 &&& (2147483647 : Int32)) % (7 : Int32)))))), .val (.int (1 : Int32)), .val (.ref r19), .unset, .unset]) rfl k) ?_
    show Goes p e below (T19.setTop (mkF m 129 #[.val (.int p1), .val (.int p2), .val (.int p3), .val (.int p4), .val (.ref b1), .val (.ref b8), .val (.int ((p1 &&& (2147483647 : Int32)) % (7 : Int32))), .val (.int (((p1 &&& (2147483647 : Int32)) % (7 : Int32)) + ((p2 &&& (2147483647 : Int32)) % ((7 : Int32) - ((p1 &&& (2147483647 : Int32)) % (7 : Int32)))))), .val (.int (1 : Int32)), .val (.ref r19), .unset, .unset] [])) _
    obtain ⟨T20, h20, X20, e20, E20, A20, D20, -, st20⟩ := newO X19 hx hZ hown (hw _ (List.mem_of_getElem? (i := 35) rfl)) (hw _ (List.mem_of_getElem? (i := 36) rfl)) (hw _ (List.mem_of_getElem? (i := 37) rfl)) rfl (g := (mkF m 129 #[.val (.int p1), .val (.int p2), .val (.int p3), .val (.int p4), .val (.ref b1), .val (.ref b8), .val (.int ((p1 &&& (2147483647 : Int32)) % (7 : Int32))), .val (.int (((p1 &&& (2147483647 : Int32)) % (7 : Int32)) + ((p2 &&& (2147483647 : Int32)) % ((7 : Int32) - ((p1 &&& (2147483647 : Int32)) % (7 : Int32)))))), .val (.int (1 : Int32)), .val (.ref r19), .unset, .unset] [])) rfl (hb hby at_129) (by decide) (by decide)
    obtain ⟨b20, g20⟩ : ∃ z, z = T19.heap.size := ⟨_, rfl⟩
    rw [← g20] at A20 D20 st20
    have lt_b1_b20 : b1 < b20 := Nat.lt_of_lt_of_le F19_15.lt (Nat.le_of_eq g20.symm)
    have lt_b8_b20 : b8 < b20 := Nat.lt_of_lt_of_le F19_16.lt (Nat.le_of_eq g20.symm)
    have lt_t10_b20 : t10 < b20 := Nat.lt_of_lt_of_le F19_19.lt (Nat.le_of_eq g20.symm)
    have lt_r19_b20 : r19 < b20 := Nat.lt_of_lt_of_le Ec19.lt (Nat.le_of_eq g20.symm)
    have lt_t19_b20 : t19 < b20 := Nat.lt_of_lt_of_le Vc19.lt (Nat.le_of_eq g20.symm)
    have ge_b20 : n0 ≤ b20 := Nat.le_trans Z19 (Nat.le_of_eq g20.symm)
    have sz_b20 : h0.size ≤ b20 := Nat.le_trans K19.1 (Nat.le_of_eq g20.symm)
    have F20_39 := F19_15.ext E20
    have F20_40 := F19_16.ext E20
    have F20_41 := F19_17.ext E20
    have F20_42 := F19_18.ext E20
    have F20_43 := F19_19.ext E20
    have F20_44 := Ec19.ext E20
    have F20_45 := Cc19.ext E20
    have F20_46 := Vq19.ext E20
    have F20_47 := Vc19.ext E20
    have K20 : Keep h0 h20 [] := K19.ext E20
    have Z20 : n0 ≤ h20.size := Nat.le_trans Z19 E20.1
    have O20 := O19.ext E20
    have hk := Nat.le_trans hk E20.1
    have F20_text : Fld Z h20 b20 "com/example/beforehand/beforehand/TextPart" "text" "Ljava/lang/CharSequence;" .null := D20 (Or.inr (hw _ (List.mem_of_getElem? (i := 48) rfl))) (ty := (.object "java/lang/CharSequence")) (by decide)
    have F20_from : Fld Z h20 b20 "com/example/beforehand/beforehand/TextPart" "from" "I" (.int (0 : Int32)) := D20 (Or.inr (hw _ (List.mem_of_getElem? (i := 50) rfl))) (ty := .int) (by decide)
    have F20_end : Fld Z h20 b20 "com/example/beforehand/beforehand/TextPart" "end" "I" (.int (0 : Int32)) := D20 (Or.inr (hw _ (List.mem_of_getElem? (i := 52) rfl))) (ty := .int) (by decide)
    have F20_after : Fld Z h20 b20 "com/example/beforehand/beforehand/TextPart" "after" "Ljava/lang/String;" .null := D20 (Or.inr (hw _ (List.mem_of_getElem? (i := 54) rfl))) (ty := (.object "java/lang/String")) (by decide)
    refine Goes.via st20 ?_
    show Goes p e below (T20.setTop (mkF m 132 #[.val (.int p1), .val (.int p2), .val (.int p3), .val (.int p4), .val (.ref b1), .val (.ref b8), .val (.int ((p1 &&& (2147483647 : Int32)) % (7 : Int32))), .val (.int (((p1 &&& (2147483647 : Int32)) % (7 : Int32)) + ((p2 &&& (2147483647 : Int32)) % ((7 : Int32) - ((p1 &&& (2147483647 : Int32)) % (7 : Int32)))))), .val (.int (1 : Int32)), .val (.ref r19), .unset, .unset] [(.ref b20)])) _
    refine Goes.via (fun t k => XS.dup X20.here hx rfl (hb hby at_132) rfl rfl k) ?_
    show Goes p e below (T20.setTop (mkF m 133 #[.val (.int p1), .val (.int p2), .val (.int p3), .val (.int p4), .val (.ref b1), .val (.ref b8), .val (.int ((p1 &&& (2147483647 : Int32)) % (7 : Int32))), .val (.int (((p1 &&& (2147483647 : Int32)) % (7 : Int32)) + ((p2 &&& (2147483647 : Int32)) % ((7 : Int32) - ((p1 &&& (2147483647 : Int32)) % (7 : Int32)))))), .val (.int (1 : Int32)), .val (.ref r19), .unset, .unset] [(.ref b20), (.ref b20)])) _
    refine Goes.via (fun t k => XS.aload X20.here hx rfl (hb hby at_133) rfl rfl k) ?_
    show Goes p e below (T20.setTop (mkF m 135 #[.val (.int p1), .val (.int p2), .val (.int p3), .val (.int p4), .val (.ref b1), .val (.ref b8), .val (.int ((p1 &&& (2147483647 : Int32)) % (7 : Int32))), .val (.int (((p1 &&& (2147483647 : Int32)) % (7 : Int32)) + ((p2 &&& (2147483647 : Int32)) % ((7 : Int32) - ((p1 &&& (2147483647 : Int32)) % (7 : Int32)))))), .val (.int (1 : Int32)), .val (.ref r19), .unset, .unset] [(.ref b8), (.ref b20), (.ref b20)])) _
    refine Goes.via (fun t k => XS.iload X20.here hx rfl (hb hby at_135) rfl k) ?_
    show Goes p e below (T20.setTop (mkF m 137 #[.val (.int p1), .val (.int p2), .val (.int p3), .val (.int p4), .val (.ref b1), .val (.ref b8), .val (.int ((p1 &&& (2147483647 : Int32)) % (7 : Int32))), .val (.int (((p1 &&& (2147483647 : Int32)) % (7 : Int32)) + ((p2 &&& (2147483647 : Int32)) % ((7 : Int32) - ((p1 &&& (2147483647 : Int32)) % (7 : Int32)))))), .val (.int (1 : Int32)), .val (.ref r19), .unset, .unset] [(.int ((p1 &&& (2147483647 : Int32)) % (7 : Int32))), (.ref b8), (.ref b20), (.ref b20)])) _
    refine Goes.via (fun t k => XS.iload X20.here hx rfl (hb hby at_137) rfl k) ?_
    show Goes p e below (T20.setTop (mkF m 139 #[.val (.int p1), .val (.int p2), .val (.int p3), .val (.int p4), .val (.ref b1), .val (.ref b8), .val (.int ((p1 &&& (2147483647 : Int32)) % (7 : Int32))), .val (.int (((p1 &&& (2147483647 : Int32)) % (7 : Int32)) + ((p2 &&& (2147483647 : Int32)) % ((7 : Int32) - ((p1 &&& (2147483647 : Int32)) % (7 : Int32)))))), .val (.int (1 : Int32)), .val (.ref r19), .unset, .unset] [(.int (((p1 &&& (2147483647 : Int32)) % (7 : Int32)) + ((p2 &&& (2147483647 : Int32)) % ((7 : Int32) - ((p1 &&& (2147483647 : Int32)) % (7 : Int32)))))), (.int ((p1 &&& (2147483647 : Int32)) % (7 : Int32))), (.ref b8), (.ref b20), (.ref b20)])) _
    refine Goes.via (fun t k => XS.aload X20.here hx rfl (hb hby at_139) rfl rfl k) ?_
    show Goes p e below (T20.setTop (mkF m 141 #[.val (.int p1), .val (.int p2), .val (.int p3), .val (.int p4), .val (.ref b1), .val (.ref b8), .val (.int ((p1 &&& (2147483647 : Int32)) % (7 : Int32))), .val (.int (((p1 &&& (2147483647 : Int32)) % (7 : Int32)) + ((p2 &&& (2147483647 : Int32)) % ((7 : Int32) - ((p1 &&& (2147483647 : Int32)) % (7 : Int32)))))), .val (.int (1 : Int32)), .val (.ref r19), .unset, .unset] [(.ref r19), (.int (((p1 &&& (2147483647 : Int32)) % (7 : Int32)) + ((p2 &&& (2147483647 : Int32)) % ((7 : Int32) - ((p1 &&& (2147483647 : Int32)) % (7 : Int32)))))), (.int ((p1 &&& (2147483647 : Int32)) % (7 : Int32))), (.ref b8), (.ref b20), (.ref b20)])) _
    try clear size; try clear heap; try clear g20; try clear st20; try clear D20; try clear E20; try clear O19; try clear Z19; try clear K19; try clear F19_19; try clear F19_18; try clear F19_17
    try clear F19_16; try clear F19_15; try clear Vc19; try clear Vq19; try clear Cc19; try clear Ec19; try clear Kc19; try clear N19q; try clear vs19; try clear st19; try clear z19; try clear y19
    try clear l19; try clear hQ19; try clear Lc19; try clear X19; try clear n19; try clear k19; try clear L19; try clear T19; try clear N18w; try clear X18w; try clear Lw18; try clear N10
    try clear O10; try clear Z10; try clear K10; try clear F10_205; try clear F10_204; try clear Vc10; try clear Vq10; try clear zt10; try clear Cc10; try clear Ec10; try clear Kc10; try clear N10q
    try clear st10; try clear z10; try clear y10; try clear l10; try clear hQ10; try clear Lc10; try clear X10; try clear n10; try clear k10; try clear L10; try clear T10; try clear N9w
    try clear X9w; try clear Lw9; try clear F8_value; try clear F8_coder; try clear O8; try clear Z8; try clear K8; try clear F8_172; try clear A8; try clear e8; try clear X8; try clear h8
    try clear T8; try clear N7
    obtain ⟨Lw21, X21w, N21w⟩ := ownPack X20 N19
    obtain ⟨_, _, ⟨T22, L22, k22, n22⟩, -, X22, ⟨Lc22, hQ22, l22, y22, z22⟩, st22⟩ := X21w.specialBack hx (y := (⟨"com/example/beforehand/beforehand/TextPart", "<init>", "(Ljava/lang/CharSequence;IILjava/lang/String;)V"⟩ : MethodName)) rfl hown (mvT hZ (hw _ (List.mem_of_getElem? (i := 38) rfl))) (mvT hZ (hw _ (List.mem_of_getElem? (i := 39) rfl))) (mvT hZ (hw _ (List.mem_of_getElem? (i := 40) rfl))) (by decide) (backOf (W := 1) (rm8 l Z a0 hw [] b20 b8 ((p1 &&& (2147483647 : Int32)) % (7 : Int32)) (((p1 &&& (2147483647 : Int32)) % (7 : Int32)) + ((p2 &&& (2147483647 : Int32)) % ((7 : Int32) - ((p1 &&& (2147483647 : Int32)) % (7 : Int32))))) r19  h20 n0 Z20 A20 F20_text F20_from F20_end F20_after ge_b20) hZ (hw _ (List.mem_of_getElem? (i := 40) rfl)) (hw _ (List.mem_of_getElem? (i := 37) rfl)) (by decide) (by decide)) (g := (mkF m 141 #[.val (.int p1), .val (.int p2), .val (.int p3), .val (.int p4), .val (.ref b1), .val (.ref b8), .val (.int ((p1 &&& (2147483647 : Int32)) % (7 : Int32))), .val (.int (((p1 &&& (2147483647 : Int32)) % (7 : Int32)) + ((p2 &&& (2147483647 : Int32)) % ((7 : Int32) - ((p1 &&& (2147483647 : Int32)) % (7 : Int32)))))), .val (.int (1 : Int32)), .val (.ref r19), .unset, .unset] [(.ref r19), (.int (((p1 &&& (2147483647 : Int32)) % (7 : Int32)) + ((p2 &&& (2147483647 : Int32)) % ((7 : Int32) - ((p1 &&& (2147483647 : Int32)) % (7 : Int32)))))), (.int ((p1 &&& (2147483647 : Int32)) % (7 : Int32))), (.ref b8), (.ref b20), (.ref b20)])) rfl (by rw [hml]; rfl) (Steps.refl _) (a := b20) (argsL := [(.ref b8), (.int ((p1 &&& (2147483647 : Int32)) % (7 : Int32))), (.int (((p1 &&& (2147483647 : Int32)) % (7 : Int32)) + ((p2 &&& (2147483647 : Int32)) % ((7 : Int32) - ((p1 &&& (2147483647 : Int32)) % (7 : Int32)))))), (.ref r19)]) (rest := [(.ref b20)]) (lenOf pd_0_2 rfl) rfl (by show 2 * 0 + _ ≤ _; exact Nat.le_of_eq rfl) (hb hby at_141) (fun _ _ => ⟨rfl, e20, (by decide : 7 + 0 ≤ _), (by decide : 26 + 0 ≤ _)⟩)
    dsimp only [Pt.U, Pt.locs, Pt.cells, Pt.slots] at X22 l22 y22 z22 st22 hQ22
    subst l22 y22 z22
    obtain ⟨rfl, N22q, Kc22, Ff22, Fe22, Fa22⟩ := hQ22
    have F22_80 := F20_39.keep Kc22 (fun q => (Nat.ne_of_lt lt_b1_b20) (List.mem_singleton.mp q))
    have F22_81 := F20_40.keep Kc22
    have F22_82 := F20_41.keep Kc22 (fun q => (Nat.ne_of_lt lt_b8_b20) (List.mem_singleton.mp q))
    have F22_83 := F20_42.keep Kc22 (fun q => (Nat.ne_of_lt lt_b8_b20) (List.mem_singleton.mp q))
    have F22_84 := F20_43.keep Kc22 (fun q => (Nat.ne_of_lt lt_t10_b20) (List.mem_singleton.mp q))
    have F22_85 := F20_44.keep Kc22
    have F22_86 := F20_45.keep Kc22 (fun q => (Nat.ne_of_lt lt_r19_b20) (List.mem_singleton.mp q))
    have F22_87 := F20_46.keep Kc22 (fun q => (Nat.ne_of_lt lt_r19_b20) (List.mem_singleton.mp q))
    have F22_88 := F20_47.keep Kc22 (fun q => (Nat.ne_of_lt lt_t19_b20) (List.mem_singleton.mp q))
    have F22_89 := A20.keep Kc22
    have K22 : Keep h0 T22.heap [] := K20.trans Kc22 (fun x hx => by cases List.mem_singleton.mp hx; exact Or.inr sz_b20)
    have Z22 : n0 ≤ T22.heap.size := Nat.le_trans Z20 Kc22.1
    have O22 := O20.keep Kc22 (fun x hx => by cases List.mem_singleton.mp hx; exact ge_b20)
    have hk := Nat.le_trans hk Kc22.1
    have N22 := Fr.app N21w N22q
    refine Goes.via (fun t k => st22.trans k) ?_
    show Goes p e below (T22.setTop (mkF m 144 #[.val (.int p1), .val (.int p2), .val (.int p3), .val (.int p4), .val (.ref b1), .val (.ref b8), .val (.int ((p1 &&& (2147483647 : Int32)) % (7 : Int32))), .val (.int (((p1 &&& (2147483647 : Int32)) % (7 : Int32)) + ((p2 &&& (2147483647 : Int32)) % ((7 : Int32) - ((p1 &&& (2147483647 : Int32)) % (7 : Int32)))))), .val (.int (1 : Int32)), .val (.ref r19), .unset, .unset] [(.ref b20)])) _
    refine Goes.via (fun t k => XS.astore X22.here hx rfl (hb hby at_144) rfl rfl (l' := #[.val (.int p1), .val (.int p2), .val (.int p3), .val (.int p4), .val (.ref b1), .val (.ref b8), .val (.int ((p1 &&& (2147483647 : Int32)) % (7 : Int32))), .val (.int (((p1 &&& (2147483647 : Int32)) % (7 : Int32)) + ((p2 &&& (2147483647 : Int32)) % ((7 : Int32) - ((p1 &&& (2147483647 : Int32)) % (7 : Int32)))))), .val (.int (1 : Int32)), .val (.ref r19), .val (.ref b20), .unset]) rfl k) ?_
    show Goes p e below (T22.setTop (mkF m 146 #[.val (.int p1), .val (.int p2), .val (.int p3), .val (.int p4), .val (.ref b1), .val (.ref b8), .val (.int ((p1 &&& (2147483647 : Int32)) % (7 : Int32))), .val (.int (((p1 &&& (2147483647 : Int32)) % (7 : Int32)) + ((p2 &&& (2147483647 : Int32)) % ((7 : Int32) - ((p1 &&& (2147483647 : Int32)) % (7 : Int32)))))), .val (.int (1 : Int32)), .val (.ref r19), .val (.ref b20), .unset] [])) _
    refine Goes.via (fun t k => XS.iload X22.here hx rfl (hb hby at_146) rfl k) ?_
    show Goes p e below (T22.setTop (mkF m 148 #[.val (.int p1), .val (.int p2), .val (.int p3), .val (.int p4), .val (.ref b1), .val (.ref b8), .val (.int ((p1 &&& (2147483647 : Int32)) % (7 : Int32))), .val (.int (((p1 &&& (2147483647 : Int32)) % (7 : Int32)) + ((p2 &&& (2147483647 : Int32)) % ((7 : Int32) - ((p1 &&& (2147483647 : Int32)) % (7 : Int32)))))), .val (.int (1 : Int32)), .val (.ref r19), .val (.ref b20), .unset] [(.int (((p1 &&& (2147483647 : Int32)) % (7 : Int32)) + ((p2 &&& (2147483647 : Int32)) % ((7 : Int32) - ((p1 &&& (2147483647 : Int32)) % (7 : Int32))))))])) _
    refine Goes.via (fun t k => XS.iload X22.here hx rfl (hb hby at_148) rfl k) ?_
    show Goes p e below (T22.setTop (mkF m 150 #[.val (.int p1), .val (.int p2), .val (.int p3), .val (.int p4), .val (.ref b1), .val (.ref b8), .val (.int ((p1 &&& (2147483647 : Int32)) % (7 : Int32))), .val (.int (((p1 &&& (2147483647 : Int32)) % (7 : Int32)) + ((p2 &&& (2147483647 : Int32)) % ((7 : Int32) - ((p1 &&& (2147483647 : Int32)) % (7 : Int32)))))), .val (.int (1 : Int32)), .val (.ref r19), .val (.ref b20), .unset] [(.int ((p1 &&& (2147483647 : Int32)) % (7 : Int32))), (.int (((p1 &&& (2147483647 : Int32)) % (7 : Int32)) + ((p2 &&& (2147483647 : Int32)) % ((7 : Int32) - ((p1 &&& (2147483647 : Int32)) % (7 : Int32))))))])) _
    refine Goes.via (fun t k => XS.isub X22.here hx rfl (hb hby at_150) rfl k) ?_
    show Goes p e below (T22.setTop (mkF m 151 #[.val (.int p1), .val (.int p2), .val (.int p3), .val (.int p4), .val (.ref b1), .val (.ref b8), .val (.int ((p1 &&& (2147483647 : Int32)) % (7 : Int32))), .val (.int (((p1 &&& (2147483647 : Int32)) % (7 : Int32)) + ((p2 &&& (2147483647 : Int32)) % ((7 : Int32) - ((p1 &&& (2147483647 : Int32)) % (7 : Int32)))))), .val (.int (1 : Int32)), .val (.ref r19), .val (.ref b20), .unset] [(.int ((((p1 &&& (2147483647 : Int32)) % (7 : Int32)) + ((p2 &&& (2147483647 : Int32)) % ((7 : Int32) - ((p1 &&& (2147483647 : Int32)) % (7 : Int32))))) - ((p1 &&& (2147483647 : Int32)) % (7 : Int32))))])) _
    refine Goes.via (fun t k => XS.iload X22.here hx rfl (hb hby at_151) rfl k) ?_
    show Goes p e below (T22.setTop (mkF m 153 #[.val (.int p1), .val (.int p2), .val (.int p3), .val (.int p4), .val (.ref b1), .val (.ref b8), .val (.int ((p1 &&& (2147483647 : Int32)) % (7 : Int32))), .val (.int (((p1 &&& (2147483647 : Int32)) % (7 : Int32)) + ((p2 &&& (2147483647 : Int32)) % ((7 : Int32) - ((p1 &&& (2147483647 : Int32)) % (7 : Int32)))))), .val (.int (1 : Int32)), .val (.ref r19), .val (.ref b20), .unset] [(.int (1 : Int32)), (.int ((((p1 &&& (2147483647 : Int32)) % (7 : Int32)) + ((p2 &&& (2147483647 : Int32)) % ((7 : Int32) - ((p1 &&& (2147483647 : Int32)) % (7 : Int32))))) - ((p1 &&& (2147483647 : Int32)) % (7 : Int32))))])) _
    refine Goes.via (fun t k => XS.iadd X22.here hx rfl (hb hby at_153) rfl k) ?_
    show Goes p e below (T22.setTop (mkF m 154 #[.val (.int p1), .val (.int p2), .val (.int p3), .val (.int p4), .val (.ref b1), .val (.ref b8), .val (.int ((p1 &&& (2147483647 : Int32)) % (7 : Int32))), .val (.int (((p1 &&& (2147483647 : Int32)) % (7 : Int32)) + ((p2 &&& (2147483647 : Int32)) % ((7 : Int32) - ((p1 &&& (2147483647 : Int32)) % (7 : Int32)))))), .val (.int (1 : Int32)), .val (.ref r19), .val (.ref b20), .unset] [(.int (((((p1 &&& (2147483647 : Int32)) % (7 : Int32)) + ((p2 &&& (2147483647 : Int32)) % ((7 : Int32) - ((p1 &&& (2147483647 : Int32)) % (7 : Int32))))) - ((p1 &&& (2147483647 : Int32)) % (7 : Int32))) + (1 : Int32)))])) _
    refine Goes.via (fun t k => XS.istore X22.here hx rfl (hb hby at_154) rfl (l' := #[.val (.int p1), .val (.int p2), .val (.int p3), .val (.int p4), .val (.ref b1), .val (.ref b8), .val (.int ((p1 &&& (2147483647 : Int32)) % (7 : Int32))), .val (.int (((p1 &&& (2147483647 : Int32)) % (7 : Int32)) + ((p2 &&& (2147483647 : Int32)) % ((7 : Int32) - ((p1 &&& (2147483647 : Int32)) % (7 : Int32)))))), .val (.int (1 : Int32)), .val (.ref r19), .val (.ref b20), .val (.int (((((p1 &&& (2147483647 : Int32)) % (7 : Int32)) + ((p2 &&& (2147483647 : Int32)) % ((7 : Int32) - ((p1 &&& (2147483647 : Int32)) % (7 : Int32))))) - ((p1 &&& (2147483647 : Int32)) % (7 : Int32))) + (1 : Int32)))]) rfl k) ?_
    show Goes p e below (T22.setTop (mkF m 156 #[.val (.int p1), .val (.int p2), .val (.int p3), .val (.int p4), .val (.ref b1), .val (.ref b8), .val (.int ((p1 &&& (2147483647 : Int32)) % (7 : Int32))), .val (.int (((p1 &&& (2147483647 : Int32)) % (7 : Int32)) + ((p2 &&& (2147483647 : Int32)) % ((7 : Int32) - ((p1 &&& (2147483647 : Int32)) % (7 : Int32)))))), .val (.int (1 : Int32)), .val (.ref r19), .val (.ref b20), .val (.int (((((p1 &&& (2147483647 : Int32)) % (7 : Int32)) + ((p2 &&& (2147483647 : Int32)) % ((7 : Int32) - ((p1 &&& (2147483647 : Int32)) % (7 : Int32))))) - ((p1 &&& (2147483647 : Int32)) % (7 : Int32))) + (1 : Int32)))] [])) _
    refine Goes.via (fun t k => XS.aload X22.here hx rfl (hb hby at_156) rfl rfl k) ?_
    show Goes p e below (T22.setTop (mkF m 158 #[.val (.int p1), .val (.int p2), .val (.int p3), .val (.int p4), .val (.ref b1), .val (.ref b8), .val (.int ((p1 &&& (2147483647 : Int32)) % (7 : Int32))), .val (.int (((p1 &&& (2147483647 : Int32)) % (7 : Int32)) + ((p2 &&& (2147483647 : Int32)) % ((7 : Int32) - ((p1 &&& (2147483647 : Int32)) % (7 : Int32)))))), .val (.int (1 : Int32)), .val (.ref r19), .val (.ref b20), .val (.int (((((p1 &&& (2147483647 : Int32)) % (7 : Int32)) + ((p2 &&& (2147483647 : Int32)) % ((7 : Int32) - ((p1 &&& (2147483647 : Int32)) % (7 : Int32))))) - ((p1 &&& (2147483647 : Int32)) % (7 : Int32))) + (1 : Int32)))] [(.ref b20)])) _
    try clear Kc22; try clear N22q; try clear st22; try clear z22; try clear y22; try clear l22; try clear hQ22; try clear Lc22; try clear n22; try clear k22; try clear L22; try clear N21w
    try clear X21w; try clear Lw21; try clear F20_after; try clear F20_end; try clear F20_from; try clear F20_text; try clear O20; try clear Z20; try clear K20; try clear F20_47; try clear F20_46; try clear F20_45
    try clear F20_44; try clear F20_43; try clear F20_42; try clear F20_41; try clear F20_40; try clear F20_39; try clear A20; try clear e20; try clear X20; try clear h20; try clear T20; try clear N19
    obtain ⟨Lw23, X23w, N23w⟩ := ownPack X22 N22
    obtain ⟨cq24, kq24, q24a, q24b, q24c⟩ := isOf hZ rfl F22_89
    obtain ⟨_, _, ⟨T24, L24, k24, n24⟩, -, X24, ⟨Lc24, hQ24, l24, y24, z24⟩, st24⟩ := X23w.virtualBack hx (y := (⟨"com/example/beforehand/beforehand/TextPart", "length", "()I"⟩ : MethodName)) (z := (⟨"com/example/beforehand/beforehand/TextPart", "length", "()I"⟩ : MethodName)) hown (mvT hZ (hw _ (List.mem_of_getElem? (i := 55) rfl))) (mvT hZ (hw _ (List.mem_of_getElem? (i := 56) rfl))) (notFace_of_selects (args := #[]) (mvT hZ (hw _ (List.mem_of_getElem? (i := 58) rfl)))) (mvT hZ (hw _ (List.mem_of_getElem? (i := 58) rfl))) (mvT hZ (hw _ (List.mem_of_getElem? (i := 57) rfl))) (by decide) (backOf (W := 0) (rm10_1 l Z a0 hw [] b20 ((p1 &&& (2147483647 : Int32)) % (7 : Int32)) (((p1 &&& (2147483647 : Int32)) % (7 : Int32)) + ((p2 &&& (2147483647 : Int32)) % ((7 : Int32) - ((p1 &&& (2147483647 : Int32)) % (7 : Int32))))) r19 t19 kt19 _ w0 T22.heap n0 Z22 Ff22 Fe22 Fa22 F22_85 F22_87 F22_86 F22_88 O22 St) hZ (hw _ (List.mem_of_getElem? (i := 59) rfl)) (hw _ (List.mem_of_getElem? (i := 37) rfl)) (by decide) (by decide)) q24a q24c (g := (mkF m 158 #[.val (.int p1), .val (.int p2), .val (.int p3), .val (.int p4), .val (.ref b1), .val (.ref b8), .val (.int ((p1 &&& (2147483647 : Int32)) % (7 : Int32))), .val (.int (((p1 &&& (2147483647 : Int32)) % (7 : Int32)) + ((p2 &&& (2147483647 : Int32)) % ((7 : Int32) - ((p1 &&& (2147483647 : Int32)) % (7 : Int32)))))), .val (.int (1 : Int32)), .val (.ref r19), .val (.ref b20), .val (.int (((((p1 &&& (2147483647 : Int32)) % (7 : Int32)) + ((p2 &&& (2147483647 : Int32)) % ((7 : Int32) - ((p1 &&& (2147483647 : Int32)) % (7 : Int32))))) - ((p1 &&& (2147483647 : Int32)) % (7 : Int32))) + (1 : Int32)))] [(.ref b20)])) rfl (by rw [hml]; rfl) (Steps.refl _) (argsL := []) (rest := []) (lenOf pd_0_3 rfl) rfl (by show 2 * 0 + _ ≤ _; exact Nat.le_of_eq rfl) (hb hby at_158) (fun _ _ => ⟨rfl, rfl, (by decide : 7 + 0 ≤ _), (by decide : 26 + 0 ≤ _)⟩)
    dsimp only [Pt.U, Pt.locs, Pt.cells, Pt.slots] at X24 l24 y24 z24 st24 hQ24
    subst l24 y24 z24
    obtain ⟨rfl, N24q, er24⟩ := hQ24
    have e24 : T24.heap = T22.heap := er24
    have N24 := Fr.app N23w N24q
    refine Goes.via (fun t k => st24.trans k) ?_
    show Goes p e below (T24.setTop (mkF m 161 #[.val (.int p1), .val (.int p2), .val (.int p3), .val (.int p4), .val (.ref b1), .val (.ref b8), .val (.int ((p1 &&& (2147483647 : Int32)) % (7 : Int32))), .val (.int (((p1 &&& (2147483647 : Int32)) % (7 : Int32)) + ((p2 &&& (2147483647 : Int32)) % ((7 : Int32) - ((p1 &&& (2147483647 : Int32)) % (7 : Int32)))))), .val (.int (1 : Int32)), .val (.ref r19), .val (.ref b20), .val (.int (((((p1 &&& (2147483647 : Int32)) % (7 : Int32)) + ((p2 &&& (2147483647 : Int32)) % ((7 : Int32) - ((p1 &&& (2147483647 : Int32)) % (7 : Int32))))) - ((p1 &&& (2147483647 : Int32)) % (7 : Int32))) + (1 : Int32)))] [(.int (((((p1 &&& (2147483647 : Int32)) % (7 : Int32)) + ((p2 &&& (2147483647 : Int32)) % ((7 : Int32) - ((p1 &&& (2147483647 : Int32)) % (7 : Int32))))) - ((p1 &&& (2147483647 : Int32)) % (7 : Int32))) + (1 : Int32)))])) _
    refine Goes.via (fun t k => XS.iload X24.here hx rfl (hb hby at_161) rfl k) ?_
    show Goes p e below (T24.setTop (mkF m 163 #[.val (.int p1), .val (.int p2), .val (.int p3), .val (.int p4), .val (.ref b1), .val (.ref b8), .val (.int ((p1 &&& (2147483647 : Int32)) % (7 : Int32))), .val (.int (((p1 &&& (2147483647 : Int32)) % (7 : Int32)) + ((p2 &&& (2147483647 : Int32)) % ((7 : Int32) - ((p1 &&& (2147483647 : Int32)) % (7 : Int32)))))), .val (.int (1 : Int32)), .val (.ref r19), .val (.ref b20), .val (.int (((((p1 &&& (2147483647 : Int32)) % (7 : Int32)) + ((p2 &&& (2147483647 : Int32)) % ((7 : Int32) - ((p1 &&& (2147483647 : Int32)) % (7 : Int32))))) - ((p1 &&& (2147483647 : Int32)) % (7 : Int32))) + (1 : Int32)))] [(.int (((((p1 &&& (2147483647 : Int32)) % (7 : Int32)) + ((p2 &&& (2147483647 : Int32)) % ((7 : Int32) - ((p1 &&& (2147483647 : Int32)) % (7 : Int32))))) - ((p1 &&& (2147483647 : Int32)) % (7 : Int32))) + (1 : Int32))), (.int (((((p1 &&& (2147483647 : Int32)) % (7 : Int32)) + ((p2 &&& (2147483647 : Int32)) % ((7 : Int32) - ((p1 &&& (2147483647 : Int32)) % (7 : Int32))))) - ((p1 &&& (2147483647 : Int32)) % (7 : Int32))) + (1 : Int32)))])) _
    refine Goes.via (fun t k => XS.icmpNo X24.here hx rfl (hb hby at_163) rfl (teq (show (((((p1 &&& (2147483647 : Int32)) % (7 : Int32)) + ((p2 &&& (2147483647 : Int32)) % ((7 : Int32) - ((p1 &&& (2147483647 : Int32)) % (7 : Int32))))) - ((p1 &&& (2147483647 : Int32)) % (7 : Int32))) + (1 : Int32)) = (((((p1 &&& (2147483647 : Int32)) % (7 : Int32)) + ((p2 &&& (2147483647 : Int32)) % ((7 : Int32) - ((p1 &&& (2147483647 : Int32)) % (7 : Int32))))) - ((p1 &&& (2147483647 : Int32)) % (7 : Int32))) + (1 : Int32)) from rfl)).2 k) ?_
    show Goes p e below (T24.setTop (mkF m 166 #[.val (.int p1), .val (.int p2), .val (.int p3), .val (.int p4), .val (.ref b1), .val (.ref b8), .val (.int ((p1 &&& (2147483647 : Int32)) % (7 : Int32))), .val (.int (((p1 &&& (2147483647 : Int32)) % (7 : Int32)) + ((p2 &&& (2147483647 : Int32)) % ((7 : Int32) - ((p1 &&& (2147483647 : Int32)) % (7 : Int32)))))), .val (.int (1 : Int32)), .val (.ref r19), .val (.ref b20), .val (.int (((((p1 &&& (2147483647 : Int32)) % (7 : Int32)) + ((p2 &&& (2147483647 : Int32)) % ((7 : Int32) - ((p1 &&& (2147483647 : Int32)) % (7 : Int32))))) - ((p1 &&& (2147483647 : Int32)) % (7 : Int32))) + (1 : Int32)))] [])) _
    refine Goes.via (fun t k => XS.iconst X24.here hx rfl (hb hby at_166) k) ?_
    show Goes p e below (T24.setTop (mkF m 167 #[.val (.int p1), .val (.int p2), .val (.int p3), .val (.int p4), .val (.ref b1), .val (.ref b8), .val (.int ((p1 &&& (2147483647 : Int32)) % (7 : Int32))), .val (.int (((p1 &&& (2147483647 : Int32)) % (7 : Int32)) + ((p2 &&& (2147483647 : Int32)) % ((7 : Int32) - ((p1 &&& (2147483647 : Int32)) % (7 : Int32)))))), .val (.int (1 : Int32)), .val (.ref r19), .val (.ref b20), .val (.int (((((p1 &&& (2147483647 : Int32)) % (7 : Int32)) + ((p2 &&& (2147483647 : Int32)) % ((7 : Int32) - ((p1 &&& (2147483647 : Int32)) % (7 : Int32))))) - ((p1 &&& (2147483647 : Int32)) % (7 : Int32))) + (1 : Int32)))] [(.int (1 : Int32))])) _
    refine Goes.via (fun t k => XS.goto X24.here hx rfl (pc0 := 167) (pc' := 171) rfl (hb hby at_167) (by decide) (by decide) k) ?_
    show Goes p e below (T24.setTop (mkF m 171 #[.val (.int p1), .val (.int p2), .val (.int p3), .val (.int p4), .val (.ref b1), .val (.ref b8), .val (.int ((p1 &&& (2147483647 : Int32)) % (7 : Int32))), .val (.int (((p1 &&& (2147483647 : Int32)) % (7 : Int32)) + ((p2 &&& (2147483647 : Int32)) % ((7 : Int32) - ((p1 &&& (2147483647 : Int32)) % (7 : Int32)))))), .val (.int (1 : Int32)), .val (.ref r19), .val (.ref b20), .val (.int (((((p1 &&& (2147483647 : Int32)) % (7 : Int32)) + ((p2 &&& (2147483647 : Int32)) % ((7 : Int32) - ((p1 &&& (2147483647 : Int32)) % (7 : Int32))))) - ((p1 &&& (2147483647 : Int32)) % (7 : Int32))) + (1 : Int32)))] [(.int (1 : Int32))])) _
    obtain ⟨fs, hr, hrun, hended, hRE⟩ := X24.leaveW hS (by rw [e24]; exact hk) (v := some (.int (1 : Int32))) (fun h => by rw [Bd.returns] at h; cases h)
    refine ⟨_, _, ?_, hrun, hended, _, _, rfl, ?_, hRE.1, hRE.2.1, hRE.2.2.1, hRE.2.2.2.mono (by decide) (by decide)⟩
    · exact retN X24 hx (t := .boolean) Bd.returns (by simp) (hb hby at_171) hr
    · show Q0 Z  h0 n0 _ T24.heap _ _
      rw [e24]
      exact ⟨rfl, N24⟩
  · rw [hl]
    show Goes p e below (T10.setTop (mkF m 116 #[.val (.int p1), .val (.int p2), .val (.int p3), .val (.int p4), .val (.ref b1), .val (.ref b8), .val (.int ((p1 &&& (2147483647 : Int32)) % (7 : Int32))), .val (.int (((p1 &&& (2147483647 : Int32)) % (7 : Int32)) + ((p2 &&& (2147483647 : Int32)) % ((7 : Int32) - ((p1 &&& (2147483647 : Int32)) % (7 : Int32)))))), .unset, .unset, .unset, .unset] [(.int (2 : Int32))])) _
    refine Goes.via (fun t k => XS.istore X10.here hx rfl (hb hby at_116) rfl (l' := #[.val (.int p1), .val (.int p2), .val (.int p3), .val (.int p4), .val (.ref b1), .val (.ref b8), .val (.int ((p1 &&& (2147483647 : Int32)) % (7 : Int32))), .val (.int (((p1 &&& (2147483647 : Int32)) % (7 : Int32)) + ((p2 &&& (2147483647 : Int32)) % ((7 : Int32) - ((p1 &&& (2147483647 : Int32)) % (7 : Int32)))))), .val (.int (2 : Int32)), .unset, .unset, .unset]) rfl k) ?_
    show Goes p e below (T10.setTop (mkF m 118 #[.val (.int p1), .val (.int p2), .val (.int p3), .val (.int p4), .val (.ref b1), .val (.ref b8), .val (.int ((p1 &&& (2147483647 : Int32)) % (7 : Int32))), .val (.int (((p1 &&& (2147483647 : Int32)) % (7 : Int32)) + ((p2 &&& (2147483647 : Int32)) % ((7 : Int32) - ((p1 &&& (2147483647 : Int32)) % (7 : Int32)))))), .val (.int (2 : Int32)), .unset, .unset, .unset] [])) _
    refine Goes.via (fun t k => XS.iload X10.here hx rfl (hb hby at_118) rfl k) ?_
    show Goes p e below (T10.setTop (mkF m 120 #[.val (.int p1), .val (.int p2), .val (.int p3), .val (.int p4), .val (.ref b1), .val (.ref b8), .val (.int ((p1 &&& (2147483647 : Int32)) % (7 : Int32))), .val (.int (((p1 &&& (2147483647 : Int32)) % (7 : Int32)) + ((p2 &&& (2147483647 : Int32)) % ((7 : Int32) - ((p1 &&& (2147483647 : Int32)) % (7 : Int32)))))), .val (.int (2 : Int32)), .unset, .unset, .unset] [(.int (2 : Int32))])) _
    refine Goes.via (fun t k => XS.iloadN X10.here hx rfl (hb hby at_120) rfl k) ?_
    show Goes p e below (T10.setTop (mkF m 121 #[.val (.int p1), .val (.int p2), .val (.int p3), .val (.int p4), .val (.ref b1), .val (.ref b8), .val (.int ((p1 &&& (2147483647 : Int32)) % (7 : Int32))), .val (.int (((p1 &&& (2147483647 : Int32)) % (7 : Int32)) + ((p2 &&& (2147483647 : Int32)) % ((7 : Int32) - ((p1 &&& (2147483647 : Int32)) % (7 : Int32)))))), .val (.int (2 : Int32)), .unset, .unset, .unset] [(.int p3), (.int (2 : Int32))])) _
    refine Goes.via (fun t k => XS.bipush X10.here hx rfl (hb hby at_121) k) ?_
    show Goes p e below (T10.setTop (mkF m 123 #[.val (.int p1), .val (.int p2), .val (.int p3), .val (.int p4), .val (.ref b1), .val (.ref b8), .val (.int ((p1 &&& (2147483647 : Int32)) % (7 : Int32))), .val (.int (((p1 &&& (2147483647 : Int32)) % (7 : Int32)) + ((p2 &&& (2147483647 : Int32)) % ((7 : Int32) - ((p1 &&& (2147483647 : Int32)) % (7 : Int32)))))), .val (.int (2 : Int32)), .unset, .unset, .unset] [(.int (8 : Int32)), (.int p3), (.int (2 : Int32))])) _
    refine Goes.via (fun t k => XS.iushr X10.here hx rfl (hb hby at_123) rfl k) ?_
    show Goes p e below (T10.setTop (mkF m 124 #[.val (.int p1), .val (.int p2), .val (.int p3), .val (.int p4), .val (.ref b1), .val (.ref b8), .val (.int ((p1 &&& (2147483647 : Int32)) % (7 : Int32))), .val (.int (((p1 &&& (2147483647 : Int32)) % (7 : Int32)) + ((p2 &&& (2147483647 : Int32)) % ((7 : Int32) - ((p1 &&& (2147483647 : Int32)) % (7 : Int32)))))), .val (.int (2 : Int32)), .unset, .unset, .unset] [(.int ((p3.toUInt32 >>> ((8 : Int32) &&& 31).toUInt32).toInt32)), (.int (2 : Int32))])) _
    obtain ⟨Lw25, X25w, N25w⟩ := ownPack X10 N10
    obtain ⟨_, _, ⟨T26, L26, k26, n26⟩, -, X26, ⟨Lc26, hQ26, l26, y26, z26⟩, st26⟩ := Jvm.LawKit.callS X25w hx (y := (⟨"com/example/beforehand/beforehand/TextPartLengthPinLaw", "makeAfter", "(II)Ljava/lang/String;"⟩ : MethodName)) hown (mvT hZ (hw _ (List.mem_of_getElem? (i := 31) rfl))) (mvT hZ (hw _ (List.mem_of_getElem? (i := 32) rfl))) (mvT hZ (hw _ (List.mem_of_getElem? (i := 33) rfl))) (mvT hZ (hw _ (List.mem_of_getElem? (i := 34) rfl))) (by decide) (backOf (W := 0) (rm7_2 l Z a0 hw [] ((p3.toUInt32 >>> ((8 : Int32) &&& 31).toUInt32).toInt32) w0 T10.heap n0 Z10 O10 St) hZ (hw _ (List.mem_of_getElem? (i := 34) rfl)) (hw _ (List.mem_of_getElem? (i := 33) rfl)) (by decide) (by decide)) (g := (mkF m 124 #[.val (.int p1), .val (.int p2), .val (.int p3), .val (.int p4), .val (.ref b1), .val (.ref b8), .val (.int ((p1 &&& (2147483647 : Int32)) % (7 : Int32))), .val (.int (((p1 &&& (2147483647 : Int32)) % (7 : Int32)) + ((p2 &&& (2147483647 : Int32)) % ((7 : Int32) - ((p1 &&& (2147483647 : Int32)) % (7 : Int32)))))), .val (.int (2 : Int32)), .unset, .unset, .unset] [(.int ((p3.toUInt32 >>> ((8 : Int32) &&& 31).toUInt32).toInt32)), (.int (2 : Int32))])) rfl (by rw [hml]; rfl) (argsL := [(.int (2 : Int32)), (.int ((p3.toUInt32 >>> ((8 : Int32) &&& 31).toUInt32).toInt32))]) (rest := []) (lenOf pd_0_1 rfl) rfl (by show 2 * 0 + _ ≤ _; exact Nat.le_of_eq rfl) (hb hby at_124) (fun _ _ => ⟨rfl, rfl, (by decide : 3 + 3 ≤ _), (by decide : 16 + 8 ≤ _)⟩)
    dsimp only [Pt.U, Pt.locs, Pt.cells, Pt.slots] at X26 l26 y26 z26 st26 hQ26
    subst l26 y26 z26
    obtain ⟨r26, t26, kt26, vs26, rfl, N26q, Kc26, Ec26, Cc26, Vq26, Vc26⟩ := hQ26
    have F26_15 := F10_204.keep Kc26 List.not_mem_nil
    have F26_16 := F10_205.keep Kc26
    have F26_17 := Cc10.keep Kc26 List.not_mem_nil
    have F26_18 := Vq10.keep Kc26 List.not_mem_nil
    have F26_19 := Vc10.keep Kc26 List.not_mem_nil
    have K26 : Keep h0 T26.heap [] := K10.trans Kc26 (fun x hx => nomatch hx)
    have Z26 : n0 ≤ T26.heap.size := Nat.le_trans Z10 Kc26.1
    have O26 := O10.keep Kc26 (fun x hx => nomatch hx)
    have hk := Nat.le_trans hk Kc26.1
    have N26 := Fr.app N25w N26q
    refine Goes.via st26 ?_
    show Goes p e below (T26.setTop (mkF m 127 #[.val (.int p1), .val (.int p2), .val (.int p3), .val (.int p4), .val (.ref b1), .val (.ref b8), .val (.int ((p1 &&& (2147483647 : Int32)) % (7 : Int32))), .val (.int (((p1 &&& (2147483647 : Int32)) % (7 : Int32)) + ((p2 &&& (2147483647 : Int32)) % ((7 : Int32) - ((p1 &&& (2147483647 : Int32)) % (7 : Int32)))))), .val (.int (2 : Int32)), .unset, .unset, .unset] [(.ref r26)])) _
    refine Goes.via (fun t k => XS.astore X26.here hx rfl (hb hby at_127) rfl rfl (l' := #[.val (.int p1), .val (.int p2), .val (.int p3), .val (.int p4), .val (.ref b1), .val (.ref b8), .val (.int ((p1 &&& (2147483647 : Int32)) % (7 : Int32))), .val (.int (((p1 &&& (2147483647 : Int32)) % (7 : Int32)) + ((p2 &&& (2147483647 : Int32)) % ((7 : Int32) - ((p1 &&& (2147483647 : Int32)) % (7 : Int32)))))), .val (.int (2 : Int32)), .val (.ref r26), .unset, .unset]) rfl k) ?_
    show Goes p e below (T26.setTop (mkF m 129 #[.val (.int p1), .val (.int p2), .val (.int p3), .val (.int p4), .val (.ref b1), .val (.ref b8), .val (.int ((p1 &&& (2147483647 : Int32)) % (7 : Int32))), .val (.int (((p1 &&& (2147483647 : Int32)) % (7 : Int32)) + ((p2 &&& (2147483647 : Int32)) % ((7 : Int32) - ((p1 &&& (2147483647 : Int32)) % (7 : Int32)))))), .val (.int (2 : Int32)), .val (.ref r26), .unset, .unset] [])) _
    obtain ⟨T27, h27, X27, e27, E27, A27, D27, -, st27⟩ := newO X26 hx hZ hown (hw _ (List.mem_of_getElem? (i := 35) rfl)) (hw _ (List.mem_of_getElem? (i := 36) rfl)) (hw _ (List.mem_of_getElem? (i := 37) rfl)) rfl (g := (mkF m 129 #[.val (.int p1), .val (.int p2), .val (.int p3), .val (.int p4), .val (.ref b1), .val (.ref b8), .val (.int ((p1 &&& (2147483647 : Int32)) % (7 : Int32))), .val (.int (((p1 &&& (2147483647 : Int32)) % (7 : Int32)) + ((p2 &&& (2147483647 : Int32)) % ((7 : Int32) - ((p1 &&& (2147483647 : Int32)) % (7 : Int32)))))), .val (.int (2 : Int32)), .val (.ref r26), .unset, .unset] [])) rfl (hb hby at_129) (by decide) (by decide)
    obtain ⟨b27, g27⟩ : ∃ z, z = T26.heap.size := ⟨_, rfl⟩
    rw [← g27] at A27 D27 st27
    have lt_b1_b27 : b1 < b27 := Nat.lt_of_lt_of_le F26_15.lt (Nat.le_of_eq g27.symm)
    have lt_b8_b27 : b8 < b27 := Nat.lt_of_lt_of_le F26_16.lt (Nat.le_of_eq g27.symm)
    have lt_t10_b27 : t10 < b27 := Nat.lt_of_lt_of_le F26_19.lt (Nat.le_of_eq g27.symm)
    have lt_r26_b27 : r26 < b27 := Nat.lt_of_lt_of_le Ec26.lt (Nat.le_of_eq g27.symm)
    have lt_t26_b27 : t26 < b27 := Nat.lt_of_lt_of_le Vc26.lt (Nat.le_of_eq g27.symm)
    have ge_b27 : n0 ≤ b27 := Nat.le_trans Z26 (Nat.le_of_eq g27.symm)
    have sz_b27 : h0.size ≤ b27 := Nat.le_trans K26.1 (Nat.le_of_eq g27.symm)
    have F27_39 := F26_15.ext E27
    have F27_40 := F26_16.ext E27
    have F27_41 := F26_17.ext E27
    have F27_42 := F26_18.ext E27
    have F27_43 := F26_19.ext E27
    have F27_44 := Ec26.ext E27
    have F27_45 := Cc26.ext E27
    have F27_46 := Vq26.ext E27
    have F27_47 := Vc26.ext E27
    have K27 : Keep h0 h27 [] := K26.ext E27
    have Z27 : n0 ≤ h27.size := Nat.le_trans Z26 E27.1
    have O27 := O26.ext E27
    have hk := Nat.le_trans hk E27.1
    have F27_text : Fld Z h27 b27 "com/example/beforehand/beforehand/TextPart" "text" "Ljava/lang/CharSequence;" .null := D27 (Or.inr (hw _ (List.mem_of_getElem? (i := 48) rfl))) (ty := (.object "java/lang/CharSequence")) (by decide)
    have F27_from : Fld Z h27 b27 "com/example/beforehand/beforehand/TextPart" "from" "I" (.int (0 : Int32)) := D27 (Or.inr (hw _ (List.mem_of_getElem? (i := 50) rfl))) (ty := .int) (by decide)
    have F27_end : Fld Z h27 b27 "com/example/beforehand/beforehand/TextPart" "end" "I" (.int (0 : Int32)) := D27 (Or.inr (hw _ (List.mem_of_getElem? (i := 52) rfl))) (ty := .int) (by decide)
    have F27_after : Fld Z h27 b27 "com/example/beforehand/beforehand/TextPart" "after" "Ljava/lang/String;" .null := D27 (Or.inr (hw _ (List.mem_of_getElem? (i := 54) rfl))) (ty := (.object "java/lang/String")) (by decide)
    refine Goes.via st27 ?_
    show Goes p e below (T27.setTop (mkF m 132 #[.val (.int p1), .val (.int p2), .val (.int p3), .val (.int p4), .val (.ref b1), .val (.ref b8), .val (.int ((p1 &&& (2147483647 : Int32)) % (7 : Int32))), .val (.int (((p1 &&& (2147483647 : Int32)) % (7 : Int32)) + ((p2 &&& (2147483647 : Int32)) % ((7 : Int32) - ((p1 &&& (2147483647 : Int32)) % (7 : Int32)))))), .val (.int (2 : Int32)), .val (.ref r26), .unset, .unset] [(.ref b27)])) _
    refine Goes.via (fun t k => XS.dup X27.here hx rfl (hb hby at_132) rfl rfl k) ?_
    show Goes p e below (T27.setTop (mkF m 133 #[.val (.int p1), .val (.int p2), .val (.int p3), .val (.int p4), .val (.ref b1), .val (.ref b8), .val (.int ((p1 &&& (2147483647 : Int32)) % (7 : Int32))), .val (.int (((p1 &&& (2147483647 : Int32)) % (7 : Int32)) + ((p2 &&& (2147483647 : Int32)) % ((7 : Int32) - ((p1 &&& (2147483647 : Int32)) % (7 : Int32)))))), .val (.int (2 : Int32)), .val (.ref r26), .unset, .unset] [(.ref b27), (.ref b27)])) _
    refine Goes.via (fun t k => XS.aload X27.here hx rfl (hb hby at_133) rfl rfl k) ?_
    show Goes p e below (T27.setTop (mkF m 135 #[.val (.int p1), .val (.int p2), .val (.int p3), .val (.int p4), .val (.ref b1), .val (.ref b8), .val (.int ((p1 &&& (2147483647 : Int32)) % (7 : Int32))), .val (.int (((p1 &&& (2147483647 : Int32)) % (7 : Int32)) + ((p2 &&& (2147483647 : Int32)) % ((7 : Int32) - ((p1 &&& (2147483647 : Int32)) % (7 : Int32)))))), .val (.int (2 : Int32)), .val (.ref r26), .unset, .unset] [(.ref b8), (.ref b27), (.ref b27)])) _
    refine Goes.via (fun t k => XS.iload X27.here hx rfl (hb hby at_135) rfl k) ?_
    show Goes p e below (T27.setTop (mkF m 137 #[.val (.int p1), .val (.int p2), .val (.int p3), .val (.int p4), .val (.ref b1), .val (.ref b8), .val (.int ((p1 &&& (2147483647 : Int32)) % (7 : Int32))), .val (.int (((p1 &&& (2147483647 : Int32)) % (7 : Int32)) + ((p2 &&& (2147483647 : Int32)) % ((7 : Int32) - ((p1 &&& (2147483647 : Int32)) % (7 : Int32)))))), .val (.int (2 : Int32)), .val (.ref r26), .unset, .unset] [(.int ((p1 &&& (2147483647 : Int32)) % (7 : Int32))), (.ref b8), (.ref b27), (.ref b27)])) _
    refine Goes.via (fun t k => XS.iload X27.here hx rfl (hb hby at_137) rfl k) ?_
    show Goes p e below (T27.setTop (mkF m 139 #[.val (.int p1), .val (.int p2), .val (.int p3), .val (.int p4), .val (.ref b1), .val (.ref b8), .val (.int ((p1 &&& (2147483647 : Int32)) % (7 : Int32))), .val (.int (((p1 &&& (2147483647 : Int32)) % (7 : Int32)) + ((p2 &&& (2147483647 : Int32)) % ((7 : Int32) - ((p1 &&& (2147483647 : Int32)) % (7 : Int32)))))), .val (.int (2 : Int32)), .val (.ref r26), .unset, .unset] [(.int (((p1 &&& (2147483647 : Int32)) % (7 : Int32)) + ((p2 &&& (2147483647 : Int32)) % ((7 : Int32) - ((p1 &&& (2147483647 : Int32)) % (7 : Int32)))))), (.int ((p1 &&& (2147483647 : Int32)) % (7 : Int32))), (.ref b8), (.ref b27), (.ref b27)])) _
    refine Goes.via (fun t k => XS.aload X27.here hx rfl (hb hby at_139) rfl rfl k) ?_
    show Goes p e below (T27.setTop (mkF m 141 #[.val (.int p1), .val (.int p2), .val (.int p3), .val (.int p4), .val (.ref b1), .val (.ref b8), .val (.int ((p1 &&& (2147483647 : Int32)) % (7 : Int32))), .val (.int (((p1 &&& (2147483647 : Int32)) % (7 : Int32)) + ((p2 &&& (2147483647 : Int32)) % ((7 : Int32) - ((p1 &&& (2147483647 : Int32)) % (7 : Int32)))))), .val (.int (2 : Int32)), .val (.ref r26), .unset, .unset] [(.ref r26), (.int (((p1 &&& (2147483647 : Int32)) % (7 : Int32)) + ((p2 &&& (2147483647 : Int32)) % ((7 : Int32) - ((p1 &&& (2147483647 : Int32)) % (7 : Int32)))))), (.int ((p1 &&& (2147483647 : Int32)) % (7 : Int32))), (.ref b8), (.ref b27), (.ref b27)])) _
    try clear size; try clear heap; try clear g27; try clear st27; try clear D27; try clear E27; try clear O26; try clear Z26; try clear K26; try clear F26_19; try clear F26_18; try clear F26_17
    try clear F26_16; try clear F26_15; try clear Vc26; try clear Vq26; try clear Cc26; try clear Ec26; try clear Kc26; try clear N26q; try clear vs26; try clear st26; try clear z26; try clear y26
    try clear l26; try clear hQ26; try clear Lc26; try clear X26; try clear n26; try clear k26; try clear L26; try clear T26; try clear N25w; try clear X25w; try clear Lw25; try clear N10
    try clear O10; try clear Z10; try clear K10; try clear F10_205; try clear F10_204; try clear Vc10; try clear Vq10; try clear zt10; try clear Cc10; try clear Ec10; try clear Kc10; try clear N10q
    try clear st10; try clear z10; try clear y10; try clear l10; try clear hQ10; try clear Lc10; try clear X10; try clear n10; try clear k10; try clear L10; try clear T10; try clear N9w
    try clear X9w; try clear Lw9; try clear F8_value; try clear F8_coder; try clear O8; try clear Z8; try clear K8; try clear F8_172; try clear A8; try clear e8; try clear X8; try clear h8
    try clear T8; try clear N7
    obtain ⟨Lw28, X28w, N28w⟩ := ownPack X27 N26
    obtain ⟨_, _, ⟨T29, L29, k29, n29⟩, -, X29, ⟨Lc29, hQ29, l29, y29, z29⟩, st29⟩ := X28w.specialBack hx (y := (⟨"com/example/beforehand/beforehand/TextPart", "<init>", "(Ljava/lang/CharSequence;IILjava/lang/String;)V"⟩ : MethodName)) rfl hown (mvT hZ (hw _ (List.mem_of_getElem? (i := 38) rfl))) (mvT hZ (hw _ (List.mem_of_getElem? (i := 39) rfl))) (mvT hZ (hw _ (List.mem_of_getElem? (i := 40) rfl))) (by decide) (backOf (W := 1) (rm8 l Z a0 hw [] b27 b8 ((p1 &&& (2147483647 : Int32)) % (7 : Int32)) (((p1 &&& (2147483647 : Int32)) % (7 : Int32)) + ((p2 &&& (2147483647 : Int32)) % ((7 : Int32) - ((p1 &&& (2147483647 : Int32)) % (7 : Int32))))) r26  h27 n0 Z27 A27 F27_text F27_from F27_end F27_after ge_b27) hZ (hw _ (List.mem_of_getElem? (i := 40) rfl)) (hw _ (List.mem_of_getElem? (i := 37) rfl)) (by decide) (by decide)) (g := (mkF m 141 #[.val (.int p1), .val (.int p2), .val (.int p3), .val (.int p4), .val (.ref b1), .val (.ref b8), .val (.int ((p1 &&& (2147483647 : Int32)) % (7 : Int32))), .val (.int (((p1 &&& (2147483647 : Int32)) % (7 : Int32)) + ((p2 &&& (2147483647 : Int32)) % ((7 : Int32) - ((p1 &&& (2147483647 : Int32)) % (7 : Int32)))))), .val (.int (2 : Int32)), .val (.ref r26), .unset, .unset] [(.ref r26), (.int (((p1 &&& (2147483647 : Int32)) % (7 : Int32)) + ((p2 &&& (2147483647 : Int32)) % ((7 : Int32) - ((p1 &&& (2147483647 : Int32)) % (7 : Int32)))))), (.int ((p1 &&& (2147483647 : Int32)) % (7 : Int32))), (.ref b8), (.ref b27), (.ref b27)])) rfl (by rw [hml]; rfl) (Steps.refl _) (a := b27) (argsL := [(.ref b8), (.int ((p1 &&& (2147483647 : Int32)) % (7 : Int32))), (.int (((p1 &&& (2147483647 : Int32)) % (7 : Int32)) + ((p2 &&& (2147483647 : Int32)) % ((7 : Int32) - ((p1 &&& (2147483647 : Int32)) % (7 : Int32)))))), (.ref r26)]) (rest := [(.ref b27)]) (lenOf pd_0_2 rfl) rfl (by show 2 * 0 + _ ≤ _; exact Nat.le_of_eq rfl) (hb hby at_141) (fun _ _ => ⟨rfl, e27, (by decide : 7 + 0 ≤ _), (by decide : 28 + 0 ≤ _)⟩)
    dsimp only [Pt.U, Pt.locs, Pt.cells, Pt.slots] at X29 l29 y29 z29 st29 hQ29
    subst l29 y29 z29
    obtain ⟨rfl, N29q, Kc29, Ff29, Fe29, Fa29⟩ := hQ29
    have F29_80 := F27_39.keep Kc29 (fun q => (Nat.ne_of_lt lt_b1_b27) (List.mem_singleton.mp q))
    have F29_81 := F27_40.keep Kc29
    have F29_82 := F27_41.keep Kc29 (fun q => (Nat.ne_of_lt lt_b8_b27) (List.mem_singleton.mp q))
    have F29_83 := F27_42.keep Kc29 (fun q => (Nat.ne_of_lt lt_b8_b27) (List.mem_singleton.mp q))
    have F29_84 := F27_43.keep Kc29 (fun q => (Nat.ne_of_lt lt_t10_b27) (List.mem_singleton.mp q))
    have F29_85 := F27_44.keep Kc29
    have F29_86 := F27_45.keep Kc29 (fun q => (Nat.ne_of_lt lt_r26_b27) (List.mem_singleton.mp q))
    have F29_87 := F27_46.keep Kc29 (fun q => (Nat.ne_of_lt lt_r26_b27) (List.mem_singleton.mp q))
    have F29_88 := F27_47.keep Kc29 (fun q => (Nat.ne_of_lt lt_t26_b27) (List.mem_singleton.mp q))
    have F29_89 := A27.keep Kc29
    have K29 : Keep h0 T29.heap [] := K27.trans Kc29 (fun x hx => by cases List.mem_singleton.mp hx; exact Or.inr sz_b27)
    have Z29 : n0 ≤ T29.heap.size := Nat.le_trans Z27 Kc29.1
    have O29 := O27.keep Kc29 (fun x hx => by cases List.mem_singleton.mp hx; exact ge_b27)
    have hk := Nat.le_trans hk Kc29.1
    have N29 := Fr.app N28w N29q
    refine Goes.via (fun t k => st29.trans k) ?_
    show Goes p e below (T29.setTop (mkF m 144 #[.val (.int p1), .val (.int p2), .val (.int p3), .val (.int p4), .val (.ref b1), .val (.ref b8), .val (.int ((p1 &&& (2147483647 : Int32)) % (7 : Int32))), .val (.int (((p1 &&& (2147483647 : Int32)) % (7 : Int32)) + ((p2 &&& (2147483647 : Int32)) % ((7 : Int32) - ((p1 &&& (2147483647 : Int32)) % (7 : Int32)))))), .val (.int (2 : Int32)), .val (.ref r26), .unset, .unset] [(.ref b27)])) _
    refine Goes.via (fun t k => XS.astore X29.here hx rfl (hb hby at_144) rfl rfl (l' := #[.val (.int p1), .val (.int p2), .val (.int p3), .val (.int p4), .val (.ref b1), .val (.ref b8), .val (.int ((p1 &&& (2147483647 : Int32)) % (7 : Int32))), .val (.int (((p1 &&& (2147483647 : Int32)) % (7 : Int32)) + ((p2 &&& (2147483647 : Int32)) % ((7 : Int32) - ((p1 &&& (2147483647 : Int32)) % (7 : Int32)))))), .val (.int (2 : Int32)), .val (.ref r26), .val (.ref b27), .unset]) rfl k) ?_
    show Goes p e below (T29.setTop (mkF m 146 #[.val (.int p1), .val (.int p2), .val (.int p3), .val (.int p4), .val (.ref b1), .val (.ref b8), .val (.int ((p1 &&& (2147483647 : Int32)) % (7 : Int32))), .val (.int (((p1 &&& (2147483647 : Int32)) % (7 : Int32)) + ((p2 &&& (2147483647 : Int32)) % ((7 : Int32) - ((p1 &&& (2147483647 : Int32)) % (7 : Int32)))))), .val (.int (2 : Int32)), .val (.ref r26), .val (.ref b27), .unset] [])) _
    refine Goes.via (fun t k => XS.iload X29.here hx rfl (hb hby at_146) rfl k) ?_
    show Goes p e below (T29.setTop (mkF m 148 #[.val (.int p1), .val (.int p2), .val (.int p3), .val (.int p4), .val (.ref b1), .val (.ref b8), .val (.int ((p1 &&& (2147483647 : Int32)) % (7 : Int32))), .val (.int (((p1 &&& (2147483647 : Int32)) % (7 : Int32)) + ((p2 &&& (2147483647 : Int32)) % ((7 : Int32) - ((p1 &&& (2147483647 : Int32)) % (7 : Int32)))))), .val (.int (2 : Int32)), .val (.ref r26), .val (.ref b27), .unset] [(.int (((p1 &&& (2147483647 : Int32)) % (7 : Int32)) + ((p2 &&& (2147483647 : Int32)) % ((7 : Int32) - ((p1 &&& (2147483647 : Int32)) % (7 : Int32))))))])) _
    refine Goes.via (fun t k => XS.iload X29.here hx rfl (hb hby at_148) rfl k) ?_
    show Goes p e below (T29.setTop (mkF m 150 #[.val (.int p1), .val (.int p2), .val (.int p3), .val (.int p4), .val (.ref b1), .val (.ref b8), .val (.int ((p1 &&& (2147483647 : Int32)) % (7 : Int32))), .val (.int (((p1 &&& (2147483647 : Int32)) % (7 : Int32)) + ((p2 &&& (2147483647 : Int32)) % ((7 : Int32) - ((p1 &&& (2147483647 : Int32)) % (7 : Int32)))))), .val (.int (2 : Int32)), .val (.ref r26), .val (.ref b27), .unset] [(.int ((p1 &&& (2147483647 : Int32)) % (7 : Int32))), (.int (((p1 &&& (2147483647 : Int32)) % (7 : Int32)) + ((p2 &&& (2147483647 : Int32)) % ((7 : Int32) - ((p1 &&& (2147483647 : Int32)) % (7 : Int32))))))])) _
    refine Goes.via (fun t k => XS.isub X29.here hx rfl (hb hby at_150) rfl k) ?_
    show Goes p e below (T29.setTop (mkF m 151 #[.val (.int p1), .val (.int p2), .val (.int p3), .val (.int p4), .val (.ref b1), .val (.ref b8), .val (.int ((p1 &&& (2147483647 : Int32)) % (7 : Int32))), .val (.int (((p1 &&& (2147483647 : Int32)) % (7 : Int32)) + ((p2 &&& (2147483647 : Int32)) % ((7 : Int32) - ((p1 &&& (2147483647 : Int32)) % (7 : Int32)))))), .val (.int (2 : Int32)), .val (.ref r26), .val (.ref b27), .unset] [(.int ((((p1 &&& (2147483647 : Int32)) % (7 : Int32)) + ((p2 &&& (2147483647 : Int32)) % ((7 : Int32) - ((p1 &&& (2147483647 : Int32)) % (7 : Int32))))) - ((p1 &&& (2147483647 : Int32)) % (7 : Int32))))])) _
    refine Goes.via (fun t k => XS.iload X29.here hx rfl (hb hby at_151) rfl k) ?_
    show Goes p e below (T29.setTop (mkF m 153 #[.val (.int p1), .val (.int p2), .val (.int p3), .val (.int p4), .val (.ref b1), .val (.ref b8), .val (.int ((p1 &&& (2147483647 : Int32)) % (7 : Int32))), .val (.int (((p1 &&& (2147483647 : Int32)) % (7 : Int32)) + ((p2 &&& (2147483647 : Int32)) % ((7 : Int32) - ((p1 &&& (2147483647 : Int32)) % (7 : Int32)))))), .val (.int (2 : Int32)), .val (.ref r26), .val (.ref b27), .unset] [(.int (2 : Int32)), (.int ((((p1 &&& (2147483647 : Int32)) % (7 : Int32)) + ((p2 &&& (2147483647 : Int32)) % ((7 : Int32) - ((p1 &&& (2147483647 : Int32)) % (7 : Int32))))) - ((p1 &&& (2147483647 : Int32)) % (7 : Int32))))])) _
    refine Goes.via (fun t k => XS.iadd X29.here hx rfl (hb hby at_153) rfl k) ?_
    show Goes p e below (T29.setTop (mkF m 154 #[.val (.int p1), .val (.int p2), .val (.int p3), .val (.int p4), .val (.ref b1), .val (.ref b8), .val (.int ((p1 &&& (2147483647 : Int32)) % (7 : Int32))), .val (.int (((p1 &&& (2147483647 : Int32)) % (7 : Int32)) + ((p2 &&& (2147483647 : Int32)) % ((7 : Int32) - ((p1 &&& (2147483647 : Int32)) % (7 : Int32)))))), .val (.int (2 : Int32)), .val (.ref r26), .val (.ref b27), .unset] [(.int (((((p1 &&& (2147483647 : Int32)) % (7 : Int32)) + ((p2 &&& (2147483647 : Int32)) % ((7 : Int32) - ((p1 &&& (2147483647 : Int32)) % (7 : Int32))))) - ((p1 &&& (2147483647 : Int32)) % (7 : Int32))) + (2 : Int32)))])) _
    refine Goes.via (fun t k => XS.istore X29.here hx rfl (hb hby at_154) rfl (l' := #[.val (.int p1), .val (.int p2), .val (.int p3), .val (.int p4), .val (.ref b1), .val (.ref b8), .val (.int ((p1 &&& (2147483647 : Int32)) % (7 : Int32))), .val (.int (((p1 &&& (2147483647 : Int32)) % (7 : Int32)) + ((p2 &&& (2147483647 : Int32)) % ((7 : Int32) - ((p1 &&& (2147483647 : Int32)) % (7 : Int32)))))), .val (.int (2 : Int32)), .val (.ref r26), .val (.ref b27), .val (.int (((((p1 &&& (2147483647 : Int32)) % (7 : Int32)) + ((p2 &&& (2147483647 : Int32)) % ((7 : Int32) - ((p1 &&& (2147483647 : Int32)) % (7 : Int32))))) - ((p1 &&& (2147483647 : Int32)) % (7 : Int32))) + (2 : Int32)))]) rfl k) ?_
    show Goes p e below (T29.setTop (mkF m 156 #[.val (.int p1), .val (.int p2), .val (.int p3), .val (.int p4), .val (.ref b1), .val (.ref b8), .val (.int ((p1 &&& (2147483647 : Int32)) % (7 : Int32))), .val (.int (((p1 &&& (2147483647 : Int32)) % (7 : Int32)) + ((p2 &&& (2147483647 : Int32)) % ((7 : Int32) - ((p1 &&& (2147483647 : Int32)) % (7 : Int32)))))), .val (.int (2 : Int32)), .val (.ref r26), .val (.ref b27), .val (.int (((((p1 &&& (2147483647 : Int32)) % (7 : Int32)) + ((p2 &&& (2147483647 : Int32)) % ((7 : Int32) - ((p1 &&& (2147483647 : Int32)) % (7 : Int32))))) - ((p1 &&& (2147483647 : Int32)) % (7 : Int32))) + (2 : Int32)))] [])) _
    refine Goes.via (fun t k => XS.aload X29.here hx rfl (hb hby at_156) rfl rfl k) ?_
    show Goes p e below (T29.setTop (mkF m 158 #[.val (.int p1), .val (.int p2), .val (.int p3), .val (.int p4), .val (.ref b1), .val (.ref b8), .val (.int ((p1 &&& (2147483647 : Int32)) % (7 : Int32))), .val (.int (((p1 &&& (2147483647 : Int32)) % (7 : Int32)) + ((p2 &&& (2147483647 : Int32)) % ((7 : Int32) - ((p1 &&& (2147483647 : Int32)) % (7 : Int32)))))), .val (.int (2 : Int32)), .val (.ref r26), .val (.ref b27), .val (.int (((((p1 &&& (2147483647 : Int32)) % (7 : Int32)) + ((p2 &&& (2147483647 : Int32)) % ((7 : Int32) - ((p1 &&& (2147483647 : Int32)) % (7 : Int32))))) - ((p1 &&& (2147483647 : Int32)) % (7 : Int32))) + (2 : Int32)))] [(.ref b27)])) _
    try clear Kc29; try clear N29q; try clear st29; try clear z29; try clear y29; try clear l29; try clear hQ29; try clear Lc29; try clear n29; try clear k29; try clear L29; try clear N28w
    try clear X28w; try clear Lw28; try clear F27_after; try clear F27_end; try clear F27_from; try clear F27_text; try clear O27; try clear Z27; try clear K27; try clear F27_47; try clear F27_46; try clear F27_45
    try clear F27_44; try clear F27_43; try clear F27_42; try clear F27_41; try clear F27_40; try clear F27_39; try clear A27; try clear e27; try clear X27; try clear h27; try clear T27; try clear N26
    obtain ⟨Lw30, X30w, N30w⟩ := ownPack X29 N29
    obtain ⟨cq31, kq31, q31a, q31b, q31c⟩ := isOf hZ rfl F29_89
    obtain ⟨_, _, ⟨T31, L31, k31, n31⟩, -, X31, ⟨Lc31, hQ31, l31, y31, z31⟩, st31⟩ := X30w.virtualBack hx (y := (⟨"com/example/beforehand/beforehand/TextPart", "length", "()I"⟩ : MethodName)) (z := (⟨"com/example/beforehand/beforehand/TextPart", "length", "()I"⟩ : MethodName)) hown (mvT hZ (hw _ (List.mem_of_getElem? (i := 55) rfl))) (mvT hZ (hw _ (List.mem_of_getElem? (i := 56) rfl))) (notFace_of_selects (args := #[]) (mvT hZ (hw _ (List.mem_of_getElem? (i := 58) rfl)))) (mvT hZ (hw _ (List.mem_of_getElem? (i := 58) rfl))) (mvT hZ (hw _ (List.mem_of_getElem? (i := 57) rfl))) (by decide) (backOf (W := 0) (rm10_2 l Z a0 hw [] b27 ((p1 &&& (2147483647 : Int32)) % (7 : Int32)) (((p1 &&& (2147483647 : Int32)) % (7 : Int32)) + ((p2 &&& (2147483647 : Int32)) % ((7 : Int32) - ((p1 &&& (2147483647 : Int32)) % (7 : Int32))))) r26 t26 kt26 _ w0 T29.heap n0 Z29 Ff29 Fe29 Fa29 F29_85 F29_87 F29_86 F29_88 O29 St) hZ (hw _ (List.mem_of_getElem? (i := 59) rfl)) (hw _ (List.mem_of_getElem? (i := 37) rfl)) (by decide) (by decide)) q31a q31c (g := (mkF m 158 #[.val (.int p1), .val (.int p2), .val (.int p3), .val (.int p4), .val (.ref b1), .val (.ref b8), .val (.int ((p1 &&& (2147483647 : Int32)) % (7 : Int32))), .val (.int (((p1 &&& (2147483647 : Int32)) % (7 : Int32)) + ((p2 &&& (2147483647 : Int32)) % ((7 : Int32) - ((p1 &&& (2147483647 : Int32)) % (7 : Int32)))))), .val (.int (2 : Int32)), .val (.ref r26), .val (.ref b27), .val (.int (((((p1 &&& (2147483647 : Int32)) % (7 : Int32)) + ((p2 &&& (2147483647 : Int32)) % ((7 : Int32) - ((p1 &&& (2147483647 : Int32)) % (7 : Int32))))) - ((p1 &&& (2147483647 : Int32)) % (7 : Int32))) + (2 : Int32)))] [(.ref b27)])) rfl (by rw [hml]; rfl) (Steps.refl _) (argsL := []) (rest := []) (lenOf pd_0_3 rfl) rfl (by show 2 * 0 + _ ≤ _; exact Nat.le_of_eq rfl) (hb hby at_158) (fun _ _ => ⟨rfl, rfl, (by decide : 7 + 0 ≤ _), (by decide : 28 + 0 ≤ _)⟩)
    dsimp only [Pt.U, Pt.locs, Pt.cells, Pt.slots] at X31 l31 y31 z31 st31 hQ31
    subst l31 y31 z31
    obtain ⟨rfl, N31q, er31⟩ := hQ31
    have e31 : T31.heap = T29.heap := er31
    have N31 := Fr.app N30w N31q
    refine Goes.via (fun t k => st31.trans k) ?_
    show Goes p e below (T31.setTop (mkF m 161 #[.val (.int p1), .val (.int p2), .val (.int p3), .val (.int p4), .val (.ref b1), .val (.ref b8), .val (.int ((p1 &&& (2147483647 : Int32)) % (7 : Int32))), .val (.int (((p1 &&& (2147483647 : Int32)) % (7 : Int32)) + ((p2 &&& (2147483647 : Int32)) % ((7 : Int32) - ((p1 &&& (2147483647 : Int32)) % (7 : Int32)))))), .val (.int (2 : Int32)), .val (.ref r26), .val (.ref b27), .val (.int (((((p1 &&& (2147483647 : Int32)) % (7 : Int32)) + ((p2 &&& (2147483647 : Int32)) % ((7 : Int32) - ((p1 &&& (2147483647 : Int32)) % (7 : Int32))))) - ((p1 &&& (2147483647 : Int32)) % (7 : Int32))) + (2 : Int32)))] [(.int (((((p1 &&& (2147483647 : Int32)) % (7 : Int32)) + ((p2 &&& (2147483647 : Int32)) % ((7 : Int32) - ((p1 &&& (2147483647 : Int32)) % (7 : Int32))))) - ((p1 &&& (2147483647 : Int32)) % (7 : Int32))) + (2 : Int32)))])) _
    refine Goes.via (fun t k => XS.iload X31.here hx rfl (hb hby at_161) rfl k) ?_
    show Goes p e below (T31.setTop (mkF m 163 #[.val (.int p1), .val (.int p2), .val (.int p3), .val (.int p4), .val (.ref b1), .val (.ref b8), .val (.int ((p1 &&& (2147483647 : Int32)) % (7 : Int32))), .val (.int (((p1 &&& (2147483647 : Int32)) % (7 : Int32)) + ((p2 &&& (2147483647 : Int32)) % ((7 : Int32) - ((p1 &&& (2147483647 : Int32)) % (7 : Int32)))))), .val (.int (2 : Int32)), .val (.ref r26), .val (.ref b27), .val (.int (((((p1 &&& (2147483647 : Int32)) % (7 : Int32)) + ((p2 &&& (2147483647 : Int32)) % ((7 : Int32) - ((p1 &&& (2147483647 : Int32)) % (7 : Int32))))) - ((p1 &&& (2147483647 : Int32)) % (7 : Int32))) + (2 : Int32)))] [(.int (((((p1 &&& (2147483647 : Int32)) % (7 : Int32)) + ((p2 &&& (2147483647 : Int32)) % ((7 : Int32) - ((p1 &&& (2147483647 : Int32)) % (7 : Int32))))) - ((p1 &&& (2147483647 : Int32)) % (7 : Int32))) + (2 : Int32))), (.int (((((p1 &&& (2147483647 : Int32)) % (7 : Int32)) + ((p2 &&& (2147483647 : Int32)) % ((7 : Int32) - ((p1 &&& (2147483647 : Int32)) % (7 : Int32))))) - ((p1 &&& (2147483647 : Int32)) % (7 : Int32))) + (2 : Int32)))])) _
    refine Goes.via (fun t k => XS.icmpNo X31.here hx rfl (hb hby at_163) rfl (teq (show (((((p1 &&& (2147483647 : Int32)) % (7 : Int32)) + ((p2 &&& (2147483647 : Int32)) % ((7 : Int32) - ((p1 &&& (2147483647 : Int32)) % (7 : Int32))))) - ((p1 &&& (2147483647 : Int32)) % (7 : Int32))) + (2 : Int32)) = (((((p1 &&& (2147483647 : Int32)) % (7 : Int32)) + ((p2 &&& (2147483647 : Int32)) % ((7 : Int32) - ((p1 &&& (2147483647 : Int32)) % (7 : Int32))))) - ((p1 &&& (2147483647 : Int32)) % (7 : Int32))) + (2 : Int32)) from rfl)).2 k) ?_
    show Goes p e below (T31.setTop (mkF m 166 #[.val (.int p1), .val (.int p2), .val (.int p3), .val (.int p4), .val (.ref b1), .val (.ref b8), .val (.int ((p1 &&& (2147483647 : Int32)) % (7 : Int32))), .val (.int (((p1 &&& (2147483647 : Int32)) % (7 : Int32)) + ((p2 &&& (2147483647 : Int32)) % ((7 : Int32) - ((p1 &&& (2147483647 : Int32)) % (7 : Int32)))))), .val (.int (2 : Int32)), .val (.ref r26), .val (.ref b27), .val (.int (((((p1 &&& (2147483647 : Int32)) % (7 : Int32)) + ((p2 &&& (2147483647 : Int32)) % ((7 : Int32) - ((p1 &&& (2147483647 : Int32)) % (7 : Int32))))) - ((p1 &&& (2147483647 : Int32)) % (7 : Int32))) + (2 : Int32)))] [])) _
    refine Goes.via (fun t k => XS.iconst X31.here hx rfl (hb hby at_166) k) ?_
    show Goes p e below (T31.setTop (mkF m 167 #[.val (.int p1), .val (.int p2), .val (.int p3), .val (.int p4), .val (.ref b1), .val (.ref b8), .val (.int ((p1 &&& (2147483647 : Int32)) % (7 : Int32))), .val (.int (((p1 &&& (2147483647 : Int32)) % (7 : Int32)) + ((p2 &&& (2147483647 : Int32)) % ((7 : Int32) - ((p1 &&& (2147483647 : Int32)) % (7 : Int32)))))), .val (.int (2 : Int32)), .val (.ref r26), .val (.ref b27), .val (.int (((((p1 &&& (2147483647 : Int32)) % (7 : Int32)) + ((p2 &&& (2147483647 : Int32)) % ((7 : Int32) - ((p1 &&& (2147483647 : Int32)) % (7 : Int32))))) - ((p1 &&& (2147483647 : Int32)) % (7 : Int32))) + (2 : Int32)))] [(.int (1 : Int32))])) _
    refine Goes.via (fun t k => XS.goto X31.here hx rfl (pc0 := 167) (pc' := 171) rfl (hb hby at_167) (by decide) (by decide) k) ?_
    show Goes p e below (T31.setTop (mkF m 171 #[.val (.int p1), .val (.int p2), .val (.int p3), .val (.int p4), .val (.ref b1), .val (.ref b8), .val (.int ((p1 &&& (2147483647 : Int32)) % (7 : Int32))), .val (.int (((p1 &&& (2147483647 : Int32)) % (7 : Int32)) + ((p2 &&& (2147483647 : Int32)) % ((7 : Int32) - ((p1 &&& (2147483647 : Int32)) % (7 : Int32)))))), .val (.int (2 : Int32)), .val (.ref r26), .val (.ref b27), .val (.int (((((p1 &&& (2147483647 : Int32)) % (7 : Int32)) + ((p2 &&& (2147483647 : Int32)) % ((7 : Int32) - ((p1 &&& (2147483647 : Int32)) % (7 : Int32))))) - ((p1 &&& (2147483647 : Int32)) % (7 : Int32))) + (2 : Int32)))] [(.int (1 : Int32))])) _
    obtain ⟨fs, hr, hrun, hended, hRE⟩ := X31.leaveW hS (by rw [e31]; exact hk) (v := some (.int (1 : Int32))) (fun h => by rw [Bd.returns] at h; cases h)
    refine ⟨_, _, ?_, hrun, hended, _, _, rfl, ?_, hRE.1, hRE.2.1, hRE.2.2.1, hRE.2.2.2.mono (by decide) (by decide)⟩
    · exact retN X31 hx (t := .boolean) Bd.returns (by simp) (hb hby at_171) hr
    · show Q0 Z  h0 n0 _ T31.heap _ _
      rw [e31]
      exact ⟨rfl, N31⟩
  · rw [hl]
    show Goes p e below (T10.setTop (mkF m 116 #[.val (.int p1), .val (.int p2), .val (.int p3), .val (.int p4), .val (.ref b1), .val (.ref b8), .val (.int ((p1 &&& (2147483647 : Int32)) % (7 : Int32))), .val (.int (((p1 &&& (2147483647 : Int32)) % (7 : Int32)) + ((p2 &&& (2147483647 : Int32)) % ((7 : Int32) - ((p1 &&& (2147483647 : Int32)) % (7 : Int32)))))), .unset, .unset, .unset, .unset] [(.int (3 : Int32))])) _
    refine Goes.via (fun t k => XS.istore X10.here hx rfl (hb hby at_116) rfl (l' := #[.val (.int p1), .val (.int p2), .val (.int p3), .val (.int p4), .val (.ref b1), .val (.ref b8), .val (.int ((p1 &&& (2147483647 : Int32)) % (7 : Int32))), .val (.int (((p1 &&& (2147483647 : Int32)) % (7 : Int32)) + ((p2 &&& (2147483647 : Int32)) % ((7 : Int32) - ((p1 &&& (2147483647 : Int32)) % (7 : Int32)))))), .val (.int (3 : Int32)), .unset, .unset, .unset]) rfl k) ?_
    show Goes p e below (T10.setTop (mkF m 118 #[.val (.int p1), .val (.int p2), .val (.int p3), .val (.int p4), .val (.ref b1), .val (.ref b8), .val (.int ((p1 &&& (2147483647 : Int32)) % (7 : Int32))), .val (.int (((p1 &&& (2147483647 : Int32)) % (7 : Int32)) + ((p2 &&& (2147483647 : Int32)) % ((7 : Int32) - ((p1 &&& (2147483647 : Int32)) % (7 : Int32)))))), .val (.int (3 : Int32)), .unset, .unset, .unset] [])) _
    refine Goes.via (fun t k => XS.iload X10.here hx rfl (hb hby at_118) rfl k) ?_
    show Goes p e below (T10.setTop (mkF m 120 #[.val (.int p1), .val (.int p2), .val (.int p3), .val (.int p4), .val (.ref b1), .val (.ref b8), .val (.int ((p1 &&& (2147483647 : Int32)) % (7 : Int32))), .val (.int (((p1 &&& (2147483647 : Int32)) % (7 : Int32)) + ((p2 &&& (2147483647 : Int32)) % ((7 : Int32) - ((p1 &&& (2147483647 : Int32)) % (7 : Int32)))))), .val (.int (3 : Int32)), .unset, .unset, .unset] [(.int (3 : Int32))])) _
    refine Goes.via (fun t k => XS.iloadN X10.here hx rfl (hb hby at_120) rfl k) ?_
    show Goes p e below (T10.setTop (mkF m 121 #[.val (.int p1), .val (.int p2), .val (.int p3), .val (.int p4), .val (.ref b1), .val (.ref b8), .val (.int ((p1 &&& (2147483647 : Int32)) % (7 : Int32))), .val (.int (((p1 &&& (2147483647 : Int32)) % (7 : Int32)) + ((p2 &&& (2147483647 : Int32)) % ((7 : Int32) - ((p1 &&& (2147483647 : Int32)) % (7 : Int32)))))), .val (.int (3 : Int32)), .unset, .unset, .unset] [(.int p3), (.int (3 : Int32))])) _
    refine Goes.via (fun t k => XS.bipush X10.here hx rfl (hb hby at_121) k) ?_
    show Goes p e below (T10.setTop (mkF m 123 #[.val (.int p1), .val (.int p2), .val (.int p3), .val (.int p4), .val (.ref b1), .val (.ref b8), .val (.int ((p1 &&& (2147483647 : Int32)) % (7 : Int32))), .val (.int (((p1 &&& (2147483647 : Int32)) % (7 : Int32)) + ((p2 &&& (2147483647 : Int32)) % ((7 : Int32) - ((p1 &&& (2147483647 : Int32)) % (7 : Int32)))))), .val (.int (3 : Int32)), .unset, .unset, .unset] [(.int (8 : Int32)), (.int p3), (.int (3 : Int32))])) _
    refine Goes.via (fun t k => XS.iushr X10.here hx rfl (hb hby at_123) rfl k) ?_
    show Goes p e below (T10.setTop (mkF m 124 #[.val (.int p1), .val (.int p2), .val (.int p3), .val (.int p4), .val (.ref b1), .val (.ref b8), .val (.int ((p1 &&& (2147483647 : Int32)) % (7 : Int32))), .val (.int (((p1 &&& (2147483647 : Int32)) % (7 : Int32)) + ((p2 &&& (2147483647 : Int32)) % ((7 : Int32) - ((p1 &&& (2147483647 : Int32)) % (7 : Int32)))))), .val (.int (3 : Int32)), .unset, .unset, .unset] [(.int ((p3.toUInt32 >>> ((8 : Int32) &&& 31).toUInt32).toInt32)), (.int (3 : Int32))])) _
    obtain ⟨Lw32, X32w, N32w⟩ := ownPack X10 N10
    obtain ⟨_, _, ⟨T33, L33, k33, n33⟩, -, X33, ⟨Lc33, hQ33, l33, y33, z33⟩, st33⟩ := Jvm.LawKit.callS X32w hx (y := (⟨"com/example/beforehand/beforehand/TextPartLengthPinLaw", "makeAfter", "(II)Ljava/lang/String;"⟩ : MethodName)) hown (mvT hZ (hw _ (List.mem_of_getElem? (i := 31) rfl))) (mvT hZ (hw _ (List.mem_of_getElem? (i := 32) rfl))) (mvT hZ (hw _ (List.mem_of_getElem? (i := 33) rfl))) (mvT hZ (hw _ (List.mem_of_getElem? (i := 34) rfl))) (by decide) (backOf (W := 0) (rm7_3 l Z a0 hw [] ((p3.toUInt32 >>> ((8 : Int32) &&& 31).toUInt32).toInt32) w0 T10.heap n0 Z10 O10 St) hZ (hw _ (List.mem_of_getElem? (i := 34) rfl)) (hw _ (List.mem_of_getElem? (i := 33) rfl)) (by decide) (by decide)) (g := (mkF m 124 #[.val (.int p1), .val (.int p2), .val (.int p3), .val (.int p4), .val (.ref b1), .val (.ref b8), .val (.int ((p1 &&& (2147483647 : Int32)) % (7 : Int32))), .val (.int (((p1 &&& (2147483647 : Int32)) % (7 : Int32)) + ((p2 &&& (2147483647 : Int32)) % ((7 : Int32) - ((p1 &&& (2147483647 : Int32)) % (7 : Int32)))))), .val (.int (3 : Int32)), .unset, .unset, .unset] [(.int ((p3.toUInt32 >>> ((8 : Int32) &&& 31).toUInt32).toInt32)), (.int (3 : Int32))])) rfl (by rw [hml]; rfl) (argsL := [(.int (3 : Int32)), (.int ((p3.toUInt32 >>> ((8 : Int32) &&& 31).toUInt32).toInt32))]) (rest := []) (lenOf pd_0_1 rfl) rfl (by show 2 * 0 + _ ≤ _; exact Nat.le_of_eq rfl) (hb hby at_124) (fun _ _ => ⟨rfl, rfl, (by decide : 3 + 3 ≤ _), (by decide : 16 + 10 ≤ _)⟩)
    dsimp only [Pt.U, Pt.locs, Pt.cells, Pt.slots] at X33 l33 y33 z33 st33 hQ33
    subst l33 y33 z33
    obtain ⟨r33, t33, kt33, vs33, rfl, N33q, Kc33, Ec33, Cc33, Vq33, Vc33⟩ := hQ33
    have F33_15 := F10_204.keep Kc33 List.not_mem_nil
    have F33_16 := F10_205.keep Kc33
    have F33_17 := Cc10.keep Kc33 List.not_mem_nil
    have F33_18 := Vq10.keep Kc33 List.not_mem_nil
    have F33_19 := Vc10.keep Kc33 List.not_mem_nil
    have K33 : Keep h0 T33.heap [] := K10.trans Kc33 (fun x hx => nomatch hx)
    have Z33 : n0 ≤ T33.heap.size := Nat.le_trans Z10 Kc33.1
    have O33 := O10.keep Kc33 (fun x hx => nomatch hx)
    have hk := Nat.le_trans hk Kc33.1
    have N33 := Fr.app N32w N33q
    refine Goes.via st33 ?_
    show Goes p e below (T33.setTop (mkF m 127 #[.val (.int p1), .val (.int p2), .val (.int p3), .val (.int p4), .val (.ref b1), .val (.ref b8), .val (.int ((p1 &&& (2147483647 : Int32)) % (7 : Int32))), .val (.int (((p1 &&& (2147483647 : Int32)) % (7 : Int32)) + ((p2 &&& (2147483647 : Int32)) % ((7 : Int32) - ((p1 &&& (2147483647 : Int32)) % (7 : Int32)))))), .val (.int (3 : Int32)), .unset, .unset, .unset] [(.ref r33)])) _
    refine Goes.via (fun t k => XS.astore X33.here hx rfl (hb hby at_127) rfl rfl (l' := #[.val (.int p1), .val (.int p2), .val (.int p3), .val (.int p4), .val (.ref b1), .val (.ref b8), .val (.int ((p1 &&& (2147483647 : Int32)) % (7 : Int32))), .val (.int (((p1 &&& (2147483647 : Int32)) % (7 : Int32)) + ((p2 &&& (2147483647 : Int32)) % ((7 : Int32) - ((p1 &&& (2147483647 : Int32)) % (7 : Int32)))))), .val (.int (3 : Int32)), .val (.ref r33), .unset, .unset]) rfl k) ?_
    show Goes p e below (T33.setTop (mkF m 129 #[.val (.int p1), .val (.int p2), .val (.int p3), .val (.int p4), .val (.ref b1), .val (.ref b8), .val (.int ((p1 &&& (2147483647 : Int32)) % (7 : Int32))), .val (.int (((p1 &&& (2147483647 : Int32)) % (7 : Int32)) + ((p2 &&& (2147483647 : Int32)) % ((7 : Int32) - ((p1 &&& (2147483647 : Int32)) % (7 : Int32)))))), .val (.int (3 : Int32)), .val (.ref r33), .unset, .unset] [])) _
    obtain ⟨T34, h34, X34, e34, E34, A34, D34, -, st34⟩ := newO X33 hx hZ hown (hw _ (List.mem_of_getElem? (i := 35) rfl)) (hw _ (List.mem_of_getElem? (i := 36) rfl)) (hw _ (List.mem_of_getElem? (i := 37) rfl)) rfl (g := (mkF m 129 #[.val (.int p1), .val (.int p2), .val (.int p3), .val (.int p4), .val (.ref b1), .val (.ref b8), .val (.int ((p1 &&& (2147483647 : Int32)) % (7 : Int32))), .val (.int (((p1 &&& (2147483647 : Int32)) % (7 : Int32)) + ((p2 &&& (2147483647 : Int32)) % ((7 : Int32) - ((p1 &&& (2147483647 : Int32)) % (7 : Int32)))))), .val (.int (3 : Int32)), .val (.ref r33), .unset, .unset] [])) rfl (hb hby at_129) (by decide) (by decide)
    obtain ⟨b34, g34⟩ : ∃ z, z = T33.heap.size := ⟨_, rfl⟩
    rw [← g34] at A34 D34 st34
    have lt_b1_b34 : b1 < b34 := Nat.lt_of_lt_of_le F33_15.lt (Nat.le_of_eq g34.symm)
    have lt_b8_b34 : b8 < b34 := Nat.lt_of_lt_of_le F33_16.lt (Nat.le_of_eq g34.symm)
    have lt_t10_b34 : t10 < b34 := Nat.lt_of_lt_of_le F33_19.lt (Nat.le_of_eq g34.symm)
    have lt_r33_b34 : r33 < b34 := Nat.lt_of_lt_of_le Ec33.lt (Nat.le_of_eq g34.symm)
    have lt_t33_b34 : t33 < b34 := Nat.lt_of_lt_of_le Vc33.lt (Nat.le_of_eq g34.symm)
    have ge_b34 : n0 ≤ b34 := Nat.le_trans Z33 (Nat.le_of_eq g34.symm)
    have sz_b34 : h0.size ≤ b34 := Nat.le_trans K33.1 (Nat.le_of_eq g34.symm)
    have F34_39 := F33_15.ext E34
    have F34_40 := F33_16.ext E34
    have F34_41 := F33_17.ext E34
    have F34_42 := F33_18.ext E34
    have F34_43 := F33_19.ext E34
    have F34_44 := Ec33.ext E34
    have F34_45 := Cc33.ext E34
    have F34_46 := Vq33.ext E34
    have F34_47 := Vc33.ext E34
    have K34 : Keep h0 h34 [] := K33.ext E34
    have Z34 : n0 ≤ h34.size := Nat.le_trans Z33 E34.1
    have O34 := O33.ext E34
    have hk := Nat.le_trans hk E34.1
    have F34_text : Fld Z h34 b34 "com/example/beforehand/beforehand/TextPart" "text" "Ljava/lang/CharSequence;" .null := D34 (Or.inr (hw _ (List.mem_of_getElem? (i := 48) rfl))) (ty := (.object "java/lang/CharSequence")) (by decide)
    have F34_from : Fld Z h34 b34 "com/example/beforehand/beforehand/TextPart" "from" "I" (.int (0 : Int32)) := D34 (Or.inr (hw _ (List.mem_of_getElem? (i := 50) rfl))) (ty := .int) (by decide)
    have F34_end : Fld Z h34 b34 "com/example/beforehand/beforehand/TextPart" "end" "I" (.int (0 : Int32)) := D34 (Or.inr (hw _ (List.mem_of_getElem? (i := 52) rfl))) (ty := .int) (by decide)
    have F34_after : Fld Z h34 b34 "com/example/beforehand/beforehand/TextPart" "after" "Ljava/lang/String;" .null := D34 (Or.inr (hw _ (List.mem_of_getElem? (i := 54) rfl))) (ty := (.object "java/lang/String")) (by decide)
    refine Goes.via st34 ?_
    show Goes p e below (T34.setTop (mkF m 132 #[.val (.int p1), .val (.int p2), .val (.int p3), .val (.int p4), .val (.ref b1), .val (.ref b8), .val (.int ((p1 &&& (2147483647 : Int32)) % (7 : Int32))), .val (.int (((p1 &&& (2147483647 : Int32)) % (7 : Int32)) + ((p2 &&& (2147483647 : Int32)) % ((7 : Int32) - ((p1 &&& (2147483647 : Int32)) % (7 : Int32)))))), .val (.int (3 : Int32)), .val (.ref r33), .unset, .unset] [(.ref b34)])) _
    refine Goes.via (fun t k => XS.dup X34.here hx rfl (hb hby at_132) rfl rfl k) ?_
    show Goes p e below (T34.setTop (mkF m 133 #[.val (.int p1), .val (.int p2), .val (.int p3), .val (.int p4), .val (.ref b1), .val (.ref b8), .val (.int ((p1 &&& (2147483647 : Int32)) % (7 : Int32))), .val (.int (((p1 &&& (2147483647 : Int32)) % (7 : Int32)) + ((p2 &&& (2147483647 : Int32)) % ((7 : Int32) - ((p1 &&& (2147483647 : Int32)) % (7 : Int32)))))), .val (.int (3 : Int32)), .val (.ref r33), .unset, .unset] [(.ref b34), (.ref b34)])) _
    refine Goes.via (fun t k => XS.aload X34.here hx rfl (hb hby at_133) rfl rfl k) ?_
    show Goes p e below (T34.setTop (mkF m 135 #[.val (.int p1), .val (.int p2), .val (.int p3), .val (.int p4), .val (.ref b1), .val (.ref b8), .val (.int ((p1 &&& (2147483647 : Int32)) % (7 : Int32))), .val (.int (((p1 &&& (2147483647 : Int32)) % (7 : Int32)) + ((p2 &&& (2147483647 : Int32)) % ((7 : Int32) - ((p1 &&& (2147483647 : Int32)) % (7 : Int32)))))), .val (.int (3 : Int32)), .val (.ref r33), .unset, .unset] [(.ref b8), (.ref b34), (.ref b34)])) _
    refine Goes.via (fun t k => XS.iload X34.here hx rfl (hb hby at_135) rfl k) ?_
    show Goes p e below (T34.setTop (mkF m 137 #[.val (.int p1), .val (.int p2), .val (.int p3), .val (.int p4), .val (.ref b1), .val (.ref b8), .val (.int ((p1 &&& (2147483647 : Int32)) % (7 : Int32))), .val (.int (((p1 &&& (2147483647 : Int32)) % (7 : Int32)) + ((p2 &&& (2147483647 : Int32)) % ((7 : Int32) - ((p1 &&& (2147483647 : Int32)) % (7 : Int32)))))), .val (.int (3 : Int32)), .val (.ref r33), .unset, .unset] [(.int ((p1 &&& (2147483647 : Int32)) % (7 : Int32))), (.ref b8), (.ref b34), (.ref b34)])) _
    refine Goes.via (fun t k => XS.iload X34.here hx rfl (hb hby at_137) rfl k) ?_
    show Goes p e below (T34.setTop (mkF m 139 #[.val (.int p1), .val (.int p2), .val (.int p3), .val (.int p4), .val (.ref b1), .val (.ref b8), .val (.int ((p1 &&& (2147483647 : Int32)) % (7 : Int32))), .val (.int (((p1 &&& (2147483647 : Int32)) % (7 : Int32)) + ((p2 &&& (2147483647 : Int32)) % ((7 : Int32) - ((p1 &&& (2147483647 : Int32)) % (7 : Int32)))))), .val (.int (3 : Int32)), .val (.ref r33), .unset, .unset] [(.int (((p1 &&& (2147483647 : Int32)) % (7 : Int32)) + ((p2 &&& (2147483647 : Int32)) % ((7 : Int32) - ((p1 &&& (2147483647 : Int32)) % (7 : Int32)))))), (.int ((p1 &&& (2147483647 : Int32)) % (7 : Int32))), (.ref b8), (.ref b34), (.ref b34)])) _
    refine Goes.via (fun t k => XS.aload X34.here hx rfl (hb hby at_139) rfl rfl k) ?_
    show Goes p e below (T34.setTop (mkF m 141 #[.val (.int p1), .val (.int p2), .val (.int p3), .val (.int p4), .val (.ref b1), .val (.ref b8), .val (.int ((p1 &&& (2147483647 : Int32)) % (7 : Int32))), .val (.int (((p1 &&& (2147483647 : Int32)) % (7 : Int32)) + ((p2 &&& (2147483647 : Int32)) % ((7 : Int32) - ((p1 &&& (2147483647 : Int32)) % (7 : Int32)))))), .val (.int (3 : Int32)), .val (.ref r33), .unset, .unset] [(.ref r33), (.int (((p1 &&& (2147483647 : Int32)) % (7 : Int32)) + ((p2 &&& (2147483647 : Int32)) % ((7 : Int32) - ((p1 &&& (2147483647 : Int32)) % (7 : Int32)))))), (.int ((p1 &&& (2147483647 : Int32)) % (7 : Int32))), (.ref b8), (.ref b34), (.ref b34)])) _
    try clear size; try clear heap; try clear g34; try clear st34; try clear D34; try clear E34; try clear O33; try clear Z33; try clear K33; try clear F33_19; try clear F33_18; try clear F33_17
    try clear F33_16; try clear F33_15; try clear Vc33; try clear Vq33; try clear Cc33; try clear Ec33; try clear Kc33; try clear N33q; try clear vs33; try clear st33; try clear z33; try clear y33
    try clear l33; try clear hQ33; try clear Lc33; try clear X33; try clear n33; try clear k33; try clear L33; try clear T33; try clear N32w; try clear X32w; try clear Lw32; try clear N10
    try clear O10; try clear Z10; try clear K10; try clear F10_205; try clear F10_204; try clear Vc10; try clear Vq10; try clear zt10; try clear Cc10; try clear Ec10; try clear Kc10; try clear N10q
    try clear st10; try clear z10; try clear y10; try clear l10; try clear hQ10; try clear Lc10; try clear X10; try clear n10; try clear k10; try clear L10; try clear T10; try clear N9w
    try clear X9w; try clear Lw9; try clear F8_value; try clear F8_coder; try clear O8; try clear Z8; try clear K8; try clear F8_172; try clear A8; try clear e8; try clear X8; try clear h8
    try clear T8; try clear N7
    obtain ⟨Lw35, X35w, N35w⟩ := ownPack X34 N33
    obtain ⟨_, _, ⟨T36, L36, k36, n36⟩, -, X36, ⟨Lc36, hQ36, l36, y36, z36⟩, st36⟩ := X35w.specialBack hx (y := (⟨"com/example/beforehand/beforehand/TextPart", "<init>", "(Ljava/lang/CharSequence;IILjava/lang/String;)V"⟩ : MethodName)) rfl hown (mvT hZ (hw _ (List.mem_of_getElem? (i := 38) rfl))) (mvT hZ (hw _ (List.mem_of_getElem? (i := 39) rfl))) (mvT hZ (hw _ (List.mem_of_getElem? (i := 40) rfl))) (by decide) (backOf (W := 1) (rm8 l Z a0 hw [] b34 b8 ((p1 &&& (2147483647 : Int32)) % (7 : Int32)) (((p1 &&& (2147483647 : Int32)) % (7 : Int32)) + ((p2 &&& (2147483647 : Int32)) % ((7 : Int32) - ((p1 &&& (2147483647 : Int32)) % (7 : Int32))))) r33  h34 n0 Z34 A34 F34_text F34_from F34_end F34_after ge_b34) hZ (hw _ (List.mem_of_getElem? (i := 40) rfl)) (hw _ (List.mem_of_getElem? (i := 37) rfl)) (by decide) (by decide)) (g := (mkF m 141 #[.val (.int p1), .val (.int p2), .val (.int p3), .val (.int p4), .val (.ref b1), .val (.ref b8), .val (.int ((p1 &&& (2147483647 : Int32)) % (7 : Int32))), .val (.int (((p1 &&& (2147483647 : Int32)) % (7 : Int32)) + ((p2 &&& (2147483647 : Int32)) % ((7 : Int32) - ((p1 &&& (2147483647 : Int32)) % (7 : Int32)))))), .val (.int (3 : Int32)), .val (.ref r33), .unset, .unset] [(.ref r33), (.int (((p1 &&& (2147483647 : Int32)) % (7 : Int32)) + ((p2 &&& (2147483647 : Int32)) % ((7 : Int32) - ((p1 &&& (2147483647 : Int32)) % (7 : Int32)))))), (.int ((p1 &&& (2147483647 : Int32)) % (7 : Int32))), (.ref b8), (.ref b34), (.ref b34)])) rfl (by rw [hml]; rfl) (Steps.refl _) (a := b34) (argsL := [(.ref b8), (.int ((p1 &&& (2147483647 : Int32)) % (7 : Int32))), (.int (((p1 &&& (2147483647 : Int32)) % (7 : Int32)) + ((p2 &&& (2147483647 : Int32)) % ((7 : Int32) - ((p1 &&& (2147483647 : Int32)) % (7 : Int32)))))), (.ref r33)]) (rest := [(.ref b34)]) (lenOf pd_0_2 rfl) rfl (by show 2 * 0 + _ ≤ _; exact Nat.le_of_eq rfl) (hb hby at_141) (fun _ _ => ⟨rfl, e34, (by decide : 7 + 0 ≤ _), (by decide : 30 + 0 ≤ _)⟩)
    dsimp only [Pt.U, Pt.locs, Pt.cells, Pt.slots] at X36 l36 y36 z36 st36 hQ36
    subst l36 y36 z36
    obtain ⟨rfl, N36q, Kc36, Ff36, Fe36, Fa36⟩ := hQ36
    have F36_80 := F34_39.keep Kc36 (fun q => (Nat.ne_of_lt lt_b1_b34) (List.mem_singleton.mp q))
    have F36_81 := F34_40.keep Kc36
    have F36_82 := F34_41.keep Kc36 (fun q => (Nat.ne_of_lt lt_b8_b34) (List.mem_singleton.mp q))
    have F36_83 := F34_42.keep Kc36 (fun q => (Nat.ne_of_lt lt_b8_b34) (List.mem_singleton.mp q))
    have F36_84 := F34_43.keep Kc36 (fun q => (Nat.ne_of_lt lt_t10_b34) (List.mem_singleton.mp q))
    have F36_85 := F34_44.keep Kc36
    have F36_86 := F34_45.keep Kc36 (fun q => (Nat.ne_of_lt lt_r33_b34) (List.mem_singleton.mp q))
    have F36_87 := F34_46.keep Kc36 (fun q => (Nat.ne_of_lt lt_r33_b34) (List.mem_singleton.mp q))
    have F36_88 := F34_47.keep Kc36 (fun q => (Nat.ne_of_lt lt_t33_b34) (List.mem_singleton.mp q))
    have F36_89 := A34.keep Kc36
    have K36 : Keep h0 T36.heap [] := K34.trans Kc36 (fun x hx => by cases List.mem_singleton.mp hx; exact Or.inr sz_b34)
    have Z36 : n0 ≤ T36.heap.size := Nat.le_trans Z34 Kc36.1
    have O36 := O34.keep Kc36 (fun x hx => by cases List.mem_singleton.mp hx; exact ge_b34)
    have hk := Nat.le_trans hk Kc36.1
    have N36 := Fr.app N35w N36q
    refine Goes.via (fun t k => st36.trans k) ?_
    show Goes p e below (T36.setTop (mkF m 144 #[.val (.int p1), .val (.int p2), .val (.int p3), .val (.int p4), .val (.ref b1), .val (.ref b8), .val (.int ((p1 &&& (2147483647 : Int32)) % (7 : Int32))), .val (.int (((p1 &&& (2147483647 : Int32)) % (7 : Int32)) + ((p2 &&& (2147483647 : Int32)) % ((7 : Int32) - ((p1 &&& (2147483647 : Int32)) % (7 : Int32)))))), .val (.int (3 : Int32)), .val (.ref r33), .unset, .unset] [(.ref b34)])) _
    refine Goes.via (fun t k => XS.astore X36.here hx rfl (hb hby at_144) rfl rfl (l' := #[.val (.int p1), .val (.int p2), .val (.int p3), .val (.int p4), .val (.ref b1), .val (.ref b8), .val (.int ((p1 &&& (2147483647 : Int32)) % (7 : Int32))), .val (.int (((p1 &&& (2147483647 : Int32)) % (7 : Int32)) + ((p2 &&& (2147483647 : Int32)) % ((7 : Int32) - ((p1 &&& (2147483647 : Int32)) % (7 : Int32)))))), .val (.int (3 : Int32)), .val (.ref r33), .val (.ref b34), .unset]) rfl k) ?_
    show Goes p e below (T36.setTop (mkF m 146 #[.val (.int p1), .val (.int p2), .val (.int p3), .val (.int p4), .val (.ref b1), .val (.ref b8), .val (.int ((p1 &&& (2147483647 : Int32)) % (7 : Int32))), .val (.int (((p1 &&& (2147483647 : Int32)) % (7 : Int32)) + ((p2 &&& (2147483647 : Int32)) % ((7 : Int32) - ((p1 &&& (2147483647 : Int32)) % (7 : Int32)))))), .val (.int (3 : Int32)), .val (.ref r33), .val (.ref b34), .unset] [])) _
    refine Goes.via (fun t k => XS.iload X36.here hx rfl (hb hby at_146) rfl k) ?_
    show Goes p e below (T36.setTop (mkF m 148 #[.val (.int p1), .val (.int p2), .val (.int p3), .val (.int p4), .val (.ref b1), .val (.ref b8), .val (.int ((p1 &&& (2147483647 : Int32)) % (7 : Int32))), .val (.int (((p1 &&& (2147483647 : Int32)) % (7 : Int32)) + ((p2 &&& (2147483647 : Int32)) % ((7 : Int32) - ((p1 &&& (2147483647 : Int32)) % (7 : Int32)))))), .val (.int (3 : Int32)), .val (.ref r33), .val (.ref b34), .unset] [(.int (((p1 &&& (2147483647 : Int32)) % (7 : Int32)) + ((p2 &&& (2147483647 : Int32)) % ((7 : Int32) - ((p1 &&& (2147483647 : Int32)) % (7 : Int32))))))])) _
    refine Goes.via (fun t k => XS.iload X36.here hx rfl (hb hby at_148) rfl k) ?_
    show Goes p e below (T36.setTop (mkF m 150 #[.val (.int p1), .val (.int p2), .val (.int p3), .val (.int p4), .val (.ref b1), .val (.ref b8), .val (.int ((p1 &&& (2147483647 : Int32)) % (7 : Int32))), .val (.int (((p1 &&& (2147483647 : Int32)) % (7 : Int32)) + ((p2 &&& (2147483647 : Int32)) % ((7 : Int32) - ((p1 &&& (2147483647 : Int32)) % (7 : Int32)))))), .val (.int (3 : Int32)), .val (.ref r33), .val (.ref b34), .unset] [(.int ((p1 &&& (2147483647 : Int32)) % (7 : Int32))), (.int (((p1 &&& (2147483647 : Int32)) % (7 : Int32)) + ((p2 &&& (2147483647 : Int32)) % ((7 : Int32) - ((p1 &&& (2147483647 : Int32)) % (7 : Int32))))))])) _
    refine Goes.via (fun t k => XS.isub X36.here hx rfl (hb hby at_150) rfl k) ?_
    show Goes p e below (T36.setTop (mkF m 151 #[.val (.int p1), .val (.int p2), .val (.int p3), .val (.int p4), .val (.ref b1), .val (.ref b8), .val (.int ((p1 &&& (2147483647 : Int32)) % (7 : Int32))), .val (.int (((p1 &&& (2147483647 : Int32)) % (7 : Int32)) + ((p2 &&& (2147483647 : Int32)) % ((7 : Int32) - ((p1 &&& (2147483647 : Int32)) % (7 : Int32)))))), .val (.int (3 : Int32)), .val (.ref r33), .val (.ref b34), .unset] [(.int ((((p1 &&& (2147483647 : Int32)) % (7 : Int32)) + ((p2 &&& (2147483647 : Int32)) % ((7 : Int32) - ((p1 &&& (2147483647 : Int32)) % (7 : Int32))))) - ((p1 &&& (2147483647 : Int32)) % (7 : Int32))))])) _
    refine Goes.via (fun t k => XS.iload X36.here hx rfl (hb hby at_151) rfl k) ?_
    show Goes p e below (T36.setTop (mkF m 153 #[.val (.int p1), .val (.int p2), .val (.int p3), .val (.int p4), .val (.ref b1), .val (.ref b8), .val (.int ((p1 &&& (2147483647 : Int32)) % (7 : Int32))), .val (.int (((p1 &&& (2147483647 : Int32)) % (7 : Int32)) + ((p2 &&& (2147483647 : Int32)) % ((7 : Int32) - ((p1 &&& (2147483647 : Int32)) % (7 : Int32)))))), .val (.int (3 : Int32)), .val (.ref r33), .val (.ref b34), .unset] [(.int (3 : Int32)), (.int ((((p1 &&& (2147483647 : Int32)) % (7 : Int32)) + ((p2 &&& (2147483647 : Int32)) % ((7 : Int32) - ((p1 &&& (2147483647 : Int32)) % (7 : Int32))))) - ((p1 &&& (2147483647 : Int32)) % (7 : Int32))))])) _
    refine Goes.via (fun t k => XS.iadd X36.here hx rfl (hb hby at_153) rfl k) ?_
    show Goes p e below (T36.setTop (mkF m 154 #[.val (.int p1), .val (.int p2), .val (.int p3), .val (.int p4), .val (.ref b1), .val (.ref b8), .val (.int ((p1 &&& (2147483647 : Int32)) % (7 : Int32))), .val (.int (((p1 &&& (2147483647 : Int32)) % (7 : Int32)) + ((p2 &&& (2147483647 : Int32)) % ((7 : Int32) - ((p1 &&& (2147483647 : Int32)) % (7 : Int32)))))), .val (.int (3 : Int32)), .val (.ref r33), .val (.ref b34), .unset] [(.int (((((p1 &&& (2147483647 : Int32)) % (7 : Int32)) + ((p2 &&& (2147483647 : Int32)) % ((7 : Int32) - ((p1 &&& (2147483647 : Int32)) % (7 : Int32))))) - ((p1 &&& (2147483647 : Int32)) % (7 : Int32))) + (3 : Int32)))])) _
    refine Goes.via (fun t k => XS.istore X36.here hx rfl (hb hby at_154) rfl (l' := #[.val (.int p1), .val (.int p2), .val (.int p3), .val (.int p4), .val (.ref b1), .val (.ref b8), .val (.int ((p1 &&& (2147483647 : Int32)) % (7 : Int32))), .val (.int (((p1 &&& (2147483647 : Int32)) % (7 : Int32)) + ((p2 &&& (2147483647 : Int32)) % ((7 : Int32) - ((p1 &&& (2147483647 : Int32)) % (7 : Int32)))))), .val (.int (3 : Int32)), .val (.ref r33), .val (.ref b34), .val (.int (((((p1 &&& (2147483647 : Int32)) % (7 : Int32)) + ((p2 &&& (2147483647 : Int32)) % ((7 : Int32) - ((p1 &&& (2147483647 : Int32)) % (7 : Int32))))) - ((p1 &&& (2147483647 : Int32)) % (7 : Int32))) + (3 : Int32)))]) rfl k) ?_
    show Goes p e below (T36.setTop (mkF m 156 #[.val (.int p1), .val (.int p2), .val (.int p3), .val (.int p4), .val (.ref b1), .val (.ref b8), .val (.int ((p1 &&& (2147483647 : Int32)) % (7 : Int32))), .val (.int (((p1 &&& (2147483647 : Int32)) % (7 : Int32)) + ((p2 &&& (2147483647 : Int32)) % ((7 : Int32) - ((p1 &&& (2147483647 : Int32)) % (7 : Int32)))))), .val (.int (3 : Int32)), .val (.ref r33), .val (.ref b34), .val (.int (((((p1 &&& (2147483647 : Int32)) % (7 : Int32)) + ((p2 &&& (2147483647 : Int32)) % ((7 : Int32) - ((p1 &&& (2147483647 : Int32)) % (7 : Int32))))) - ((p1 &&& (2147483647 : Int32)) % (7 : Int32))) + (3 : Int32)))] [])) _
    refine Goes.via (fun t k => XS.aload X36.here hx rfl (hb hby at_156) rfl rfl k) ?_
    show Goes p e below (T36.setTop (mkF m 158 #[.val (.int p1), .val (.int p2), .val (.int p3), .val (.int p4), .val (.ref b1), .val (.ref b8), .val (.int ((p1 &&& (2147483647 : Int32)) % (7 : Int32))), .val (.int (((p1 &&& (2147483647 : Int32)) % (7 : Int32)) + ((p2 &&& (2147483647 : Int32)) % ((7 : Int32) - ((p1 &&& (2147483647 : Int32)) % (7 : Int32)))))), .val (.int (3 : Int32)), .val (.ref r33), .val (.ref b34), .val (.int (((((p1 &&& (2147483647 : Int32)) % (7 : Int32)) + ((p2 &&& (2147483647 : Int32)) % ((7 : Int32) - ((p1 &&& (2147483647 : Int32)) % (7 : Int32))))) - ((p1 &&& (2147483647 : Int32)) % (7 : Int32))) + (3 : Int32)))] [(.ref b34)])) _
    try clear Kc36; try clear N36q; try clear st36; try clear z36; try clear y36; try clear l36; try clear hQ36; try clear Lc36; try clear n36; try clear k36; try clear L36; try clear N35w
    try clear X35w; try clear Lw35; try clear F34_after; try clear F34_end; try clear F34_from; try clear F34_text; try clear O34; try clear Z34; try clear K34; try clear F34_47; try clear F34_46; try clear F34_45
    try clear F34_44; try clear F34_43; try clear F34_42; try clear F34_41; try clear F34_40; try clear F34_39; try clear A34; try clear e34; try clear X34; try clear h34; try clear T34; try clear N33
    obtain ⟨Lw37, X37w, N37w⟩ := ownPack X36 N36
    obtain ⟨cq38, kq38, q38a, q38b, q38c⟩ := isOf hZ rfl F36_89
    obtain ⟨_, _, ⟨T38, L38, k38, n38⟩, -, X38, ⟨Lc38, hQ38, l38, y38, z38⟩, st38⟩ := X37w.virtualBack hx (y := (⟨"com/example/beforehand/beforehand/TextPart", "length", "()I"⟩ : MethodName)) (z := (⟨"com/example/beforehand/beforehand/TextPart", "length", "()I"⟩ : MethodName)) hown (mvT hZ (hw _ (List.mem_of_getElem? (i := 55) rfl))) (mvT hZ (hw _ (List.mem_of_getElem? (i := 56) rfl))) (notFace_of_selects (args := #[]) (mvT hZ (hw _ (List.mem_of_getElem? (i := 58) rfl)))) (mvT hZ (hw _ (List.mem_of_getElem? (i := 58) rfl))) (mvT hZ (hw _ (List.mem_of_getElem? (i := 57) rfl))) (by decide) (backOf (W := 0) (rm10_3 l Z a0 hw [] b34 ((p1 &&& (2147483647 : Int32)) % (7 : Int32)) (((p1 &&& (2147483647 : Int32)) % (7 : Int32)) + ((p2 &&& (2147483647 : Int32)) % ((7 : Int32) - ((p1 &&& (2147483647 : Int32)) % (7 : Int32))))) r33 t33 kt33 _ w0 T36.heap n0 Z36 Ff36 Fe36 Fa36 F36_85 F36_87 F36_86 F36_88 O36 St) hZ (hw _ (List.mem_of_getElem? (i := 59) rfl)) (hw _ (List.mem_of_getElem? (i := 37) rfl)) (by decide) (by decide)) q38a q38c (g := (mkF m 158 #[.val (.int p1), .val (.int p2), .val (.int p3), .val (.int p4), .val (.ref b1), .val (.ref b8), .val (.int ((p1 &&& (2147483647 : Int32)) % (7 : Int32))), .val (.int (((p1 &&& (2147483647 : Int32)) % (7 : Int32)) + ((p2 &&& (2147483647 : Int32)) % ((7 : Int32) - ((p1 &&& (2147483647 : Int32)) % (7 : Int32)))))), .val (.int (3 : Int32)), .val (.ref r33), .val (.ref b34), .val (.int (((((p1 &&& (2147483647 : Int32)) % (7 : Int32)) + ((p2 &&& (2147483647 : Int32)) % ((7 : Int32) - ((p1 &&& (2147483647 : Int32)) % (7 : Int32))))) - ((p1 &&& (2147483647 : Int32)) % (7 : Int32))) + (3 : Int32)))] [(.ref b34)])) rfl (by rw [hml]; rfl) (Steps.refl _) (argsL := []) (rest := []) (lenOf pd_0_3 rfl) rfl (by show 2 * 0 + _ ≤ _; exact Nat.le_of_eq rfl) (hb hby at_158) (fun _ _ => ⟨rfl, rfl, (by decide : 7 + 0 ≤ _), (by decide : 30 + 0 ≤ _)⟩)
    dsimp only [Pt.U, Pt.locs, Pt.cells, Pt.slots] at X38 l38 y38 z38 st38 hQ38
    subst l38 y38 z38
    obtain ⟨rfl, N38q, er38⟩ := hQ38
    have e38 : T38.heap = T36.heap := er38
    have N38 := Fr.app N37w N38q
    refine Goes.via (fun t k => st38.trans k) ?_
    show Goes p e below (T38.setTop (mkF m 161 #[.val (.int p1), .val (.int p2), .val (.int p3), .val (.int p4), .val (.ref b1), .val (.ref b8), .val (.int ((p1 &&& (2147483647 : Int32)) % (7 : Int32))), .val (.int (((p1 &&& (2147483647 : Int32)) % (7 : Int32)) + ((p2 &&& (2147483647 : Int32)) % ((7 : Int32) - ((p1 &&& (2147483647 : Int32)) % (7 : Int32)))))), .val (.int (3 : Int32)), .val (.ref r33), .val (.ref b34), .val (.int (((((p1 &&& (2147483647 : Int32)) % (7 : Int32)) + ((p2 &&& (2147483647 : Int32)) % ((7 : Int32) - ((p1 &&& (2147483647 : Int32)) % (7 : Int32))))) - ((p1 &&& (2147483647 : Int32)) % (7 : Int32))) + (3 : Int32)))] [(.int (((((p1 &&& (2147483647 : Int32)) % (7 : Int32)) + ((p2 &&& (2147483647 : Int32)) % ((7 : Int32) - ((p1 &&& (2147483647 : Int32)) % (7 : Int32))))) - ((p1 &&& (2147483647 : Int32)) % (7 : Int32))) + (3 : Int32)))])) _
    refine Goes.via (fun t k => XS.iload X38.here hx rfl (hb hby at_161) rfl k) ?_
    show Goes p e below (T38.setTop (mkF m 163 #[.val (.int p1), .val (.int p2), .val (.int p3), .val (.int p4), .val (.ref b1), .val (.ref b8), .val (.int ((p1 &&& (2147483647 : Int32)) % (7 : Int32))), .val (.int (((p1 &&& (2147483647 : Int32)) % (7 : Int32)) + ((p2 &&& (2147483647 : Int32)) % ((7 : Int32) - ((p1 &&& (2147483647 : Int32)) % (7 : Int32)))))), .val (.int (3 : Int32)), .val (.ref r33), .val (.ref b34), .val (.int (((((p1 &&& (2147483647 : Int32)) % (7 : Int32)) + ((p2 &&& (2147483647 : Int32)) % ((7 : Int32) - ((p1 &&& (2147483647 : Int32)) % (7 : Int32))))) - ((p1 &&& (2147483647 : Int32)) % (7 : Int32))) + (3 : Int32)))] [(.int (((((p1 &&& (2147483647 : Int32)) % (7 : Int32)) + ((p2 &&& (2147483647 : Int32)) % ((7 : Int32) - ((p1 &&& (2147483647 : Int32)) % (7 : Int32))))) - ((p1 &&& (2147483647 : Int32)) % (7 : Int32))) + (3 : Int32))), (.int (((((p1 &&& (2147483647 : Int32)) % (7 : Int32)) + ((p2 &&& (2147483647 : Int32)) % ((7 : Int32) - ((p1 &&& (2147483647 : Int32)) % (7 : Int32))))) - ((p1 &&& (2147483647 : Int32)) % (7 : Int32))) + (3 : Int32)))])) _
    refine Goes.via (fun t k => XS.icmpNo X38.here hx rfl (hb hby at_163) rfl (teq (show (((((p1 &&& (2147483647 : Int32)) % (7 : Int32)) + ((p2 &&& (2147483647 : Int32)) % ((7 : Int32) - ((p1 &&& (2147483647 : Int32)) % (7 : Int32))))) - ((p1 &&& (2147483647 : Int32)) % (7 : Int32))) + (3 : Int32)) = (((((p1 &&& (2147483647 : Int32)) % (7 : Int32)) + ((p2 &&& (2147483647 : Int32)) % ((7 : Int32) - ((p1 &&& (2147483647 : Int32)) % (7 : Int32))))) - ((p1 &&& (2147483647 : Int32)) % (7 : Int32))) + (3 : Int32)) from rfl)).2 k) ?_
    show Goes p e below (T38.setTop (mkF m 166 #[.val (.int p1), .val (.int p2), .val (.int p3), .val (.int p4), .val (.ref b1), .val (.ref b8), .val (.int ((p1 &&& (2147483647 : Int32)) % (7 : Int32))), .val (.int (((p1 &&& (2147483647 : Int32)) % (7 : Int32)) + ((p2 &&& (2147483647 : Int32)) % ((7 : Int32) - ((p1 &&& (2147483647 : Int32)) % (7 : Int32)))))), .val (.int (3 : Int32)), .val (.ref r33), .val (.ref b34), .val (.int (((((p1 &&& (2147483647 : Int32)) % (7 : Int32)) + ((p2 &&& (2147483647 : Int32)) % ((7 : Int32) - ((p1 &&& (2147483647 : Int32)) % (7 : Int32))))) - ((p1 &&& (2147483647 : Int32)) % (7 : Int32))) + (3 : Int32)))] [])) _
    refine Goes.via (fun t k => XS.iconst X38.here hx rfl (hb hby at_166) k) ?_
    show Goes p e below (T38.setTop (mkF m 167 #[.val (.int p1), .val (.int p2), .val (.int p3), .val (.int p4), .val (.ref b1), .val (.ref b8), .val (.int ((p1 &&& (2147483647 : Int32)) % (7 : Int32))), .val (.int (((p1 &&& (2147483647 : Int32)) % (7 : Int32)) + ((p2 &&& (2147483647 : Int32)) % ((7 : Int32) - ((p1 &&& (2147483647 : Int32)) % (7 : Int32)))))), .val (.int (3 : Int32)), .val (.ref r33), .val (.ref b34), .val (.int (((((p1 &&& (2147483647 : Int32)) % (7 : Int32)) + ((p2 &&& (2147483647 : Int32)) % ((7 : Int32) - ((p1 &&& (2147483647 : Int32)) % (7 : Int32))))) - ((p1 &&& (2147483647 : Int32)) % (7 : Int32))) + (3 : Int32)))] [(.int (1 : Int32))])) _
    refine Goes.via (fun t k => XS.goto X38.here hx rfl (pc0 := 167) (pc' := 171) rfl (hb hby at_167) (by decide) (by decide) k) ?_
    show Goes p e below (T38.setTop (mkF m 171 #[.val (.int p1), .val (.int p2), .val (.int p3), .val (.int p4), .val (.ref b1), .val (.ref b8), .val (.int ((p1 &&& (2147483647 : Int32)) % (7 : Int32))), .val (.int (((p1 &&& (2147483647 : Int32)) % (7 : Int32)) + ((p2 &&& (2147483647 : Int32)) % ((7 : Int32) - ((p1 &&& (2147483647 : Int32)) % (7 : Int32)))))), .val (.int (3 : Int32)), .val (.ref r33), .val (.ref b34), .val (.int (((((p1 &&& (2147483647 : Int32)) % (7 : Int32)) + ((p2 &&& (2147483647 : Int32)) % ((7 : Int32) - ((p1 &&& (2147483647 : Int32)) % (7 : Int32))))) - ((p1 &&& (2147483647 : Int32)) % (7 : Int32))) + (3 : Int32)))] [(.int (1 : Int32))])) _
    obtain ⟨fs, hr, hrun, hended, hRE⟩ := X38.leaveW hS (by rw [e38]; exact hk) (v := some (.int (1 : Int32))) (fun h => by rw [Bd.returns] at h; cases h)
    refine ⟨_, _, ?_, hrun, hended, _, _, rfl, ?_, hRE.1, hRE.2.1, hRE.2.2.1, hRE.2.2.2.mono (by decide) (by decide)⟩
    · exact retN X38 hx (t := .boolean) Bd.returns (by simp) (hb hby at_171) hr
    · show Q0 Z  h0 n0 _ T38.heap _ _
      rw [e38]
      exact ⟨rfl, N38⟩
set_option maxRecDepth 65536 in
set_option maxHeartbeats 40000000 in
theorem comes_1 {Post : Tables → Env → Array Value → State → Outcome → State → Prop} (hpost : ∀ tb e args s v u, (limb_1_1.after args s (.returned v) u = true ∧ limb_1_2.after args s (.returned v) u = true ∧ True) → ReturnedEndW s (.returned v) u (Jvm.fieldLocs frame_1_writes args s ++ Jvm.arrayLocs frame_1_arrays args s ++ Jvm.staticLocs frame_1_statics s) 24 1152 → Post tb e args s (.returned v) u) :
    ArmFor flags0 classFile x code maxLocals ret World_1 tables_1 room_1 Calls_1 rest_1 Pre_1 Post := by
  intro l hfl _ _ p e ha hc hk s m args below hf hA hF happ hP
  obtain ⟨hcalls, hrest, hpre⟩ := hP
  obtain ⟨-, -, -, hnamed, -, -, -, hat⟩ := (Spec.applies_iff hf).mp happ
  obtain ⟨hg, hn⟩ := and_e (Cond.before_iff.mp (show (Jvm.Cond.and given_1 narrow_1).before args s = true from hpre))
  obtain ⟨g0, r0⟩ := and_e hg
  obtain ⟨w0, w1, w2, w3, rfl⟩ : ∃ w0 w1 w2 w3 : Value, args = #[w0, w1, w2, w3] := by
    have hs : args.size = 4 := by simpa [Cond.value, given_1] using g0
    obtain ⟨L⟩ := args
    match L, hs with
    | [w0, w1, w2, w3], _ => exact ⟨w0, w1, w2, w3, rfl⟩
  have hw := fun d (hd : d ∈ tables_1) => atoms_spec (ws := Jvm.Cond.code x code maxLocals ret :: tables_1) hat d (List.mem_cons_of_mem _ hd)
  obtain ⟨g1, r1⟩ := and_e r0
  obtain ⟨g2, r2⟩ := and_e r1
  obtain ⟨g3, r3⟩ := and_e r2
  have g4 := r3
  obtain ⟨i0, ei0⟩ := is_v g1
  obtain rfl : w0 = (.int i0) := Option.some.inj ei0
  obtain ⟨i1, ei1⟩ := is_v g2
  obtain rfl : w1 = (.int i1) := Option.some.inj ei1
  obtain ⟨i2, ei2⟩ := is_v g3
  obtain rfl : w2 = (.int i2) := Option.some.inj ei2
  obtain ⟨i3, ei3⟩ := is_v g4
  obtain rfl : w3 = (.int i3) := Option.some.inj ei3
  obtain ⟨hsets, hown0⟩ := atoms_of _ (rest_1_c_eq ▸ (show rest_1_c.before _ s = true from hrest))
  have hcw : Jvm.Lit.compactW.before _ s = true := (hsets _ (List.mem_of_getElem? (i := 2) rfl))
  obtain ⟨w0, ew0⟩ := is_v (Cond.before_iff.mp (hsets _ (List.mem_of_getElem? (i := 1) rfl)))
  have hw0 : ¬ w0 = (0 : Int32) := gotF (Cond.eq_ints ew0 (show (Jvm.Term.int (0 : Int32)).eval _ s none [] s = some (.int 0) from rfl)) (not_v (Cond.before_iff.mp (hsets _ (List.mem_of_getElem? (i := 2) rfl))))
  have St : own_St s w0 := ⟨Sta.start ew0 (Or.inl (hsets _ (List.mem_of_getElem? (i := 0) rfl))), hw0⟩
  have hcH : Jvm.Lit.constHeld s "java/lang/String" 7 := hcalls.1 _ (List.mem_of_getElem? (i := 0) rfl)
  obtain ⟨n, o, h1, h2, h3, v, L, rfl, hQ, hq⟩ := rm0 l s _ hw tables_1 i0 i1 i2 i3 w0 s.heap s.heap.size (Nat.le_refl _) (Old.start s) St hcH hcw p e ha hc hk s m _ below hf ((Spec.applies_iff_loose hf).mp happ).1 ⟨rfl, State.Warmed39.refl s, rfl, IB.start⟩ trivial
  obtain ⟨hv, N⟩ : v = some (.int 1) ∧ Fr s.heap.size L := hQ
  subst hv
  refine ⟨n, _, h1, h2, h3, hpost _ _ _ _ _ _ ⟨Cond.after_iff.mpr rfl, Cond.after_iff.mpr (eq_i res_at (Term.int_eval (1)) rfl), trivial⟩ ⟨hq.1, hq.2.1, hq.2.2.1, (hq.2.2.2.sift fun y hy => Or.inr (N y hy)).mono (by decide) (by decide)⟩⟩
theorem main_1_1 : Claimed_1_1 := comes_1 fun _ _ _ _ _ _ h hF => ⟨h.1, hF⟩
theorem main_1_2 : Claimed_1_2 := comes_1 fun _ _ _ _ _ _ h hF => ⟨h.2.1, hF⟩
end Jvm.Pilot.@@N@@
namespace Jvm.Pilot.@@N@@
open Jvm Jvm.ClassFile Sem Op Lib Jvm.Free Jvm.Stand Jvm.Pilot.@@N@@.Jvm.D
/-! MADE BY PROGRAM (witnessworld.py) out of the Statement's table words and the real class files: 21 classes; the members and pool entries that the words name. The judged class is class 1, her method 1. -/
namespace start1
open Jvm.ClassFile
def u (s : String) : CpInfo := .utf8 (stringToUtf16 s)
/-- a pool by its gaps: so many unusable entries, then the entry; so many at the end -/
def gap : Nat → List CpInfo → List CpInfo
  | 0, r => r
  | n + 1, r => .unusable :: gap n r
def poolList (es : List (Nat × CpInfo)) (last : Nat) : List CpInfo := es.foldr (fun e r => gap e.1 (e.2 :: r)) (gap last [])
def pool (es : List (Nat × CpInfo)) (last : Nat) : Array CpInfo := ⟨poolList es last⟩
def fileOf (pool : Array CpInfo) (this : Nat) (attrs : Array Attribute := #[]) (ms : Array MethodInfo := #[]) (fl : Nat := 33) (sup : Nat := 0) (ifs : Array Nat := #[]) (fds : Array FieldInfo := #[]) : ClassFile where
  minorVersion := 0
  majorVersion := 65
  constantPool := pool
  accessFlags := fl
  thisClass := this
  superClass := sup
  interfaces := ifs
  fields := fds
  methods := ms
  attributes := attrs
def plain (name : String) (sup : Option ClassId) : Class where
  name := name
  kind := .ordinary
  loader := none
  accessFlags := 33
  super := sup
  interfaces := #[]
  cf := none
  fields := #[]
  methods := #[]
  instanceTypes := #[]
  staticTypes := #[]
  resolved := #[]
  callSites := []
  init := .initialized
  statics := none
  mirror := none

def pool0 : Array CpInfo := pool [(5, u "<init>"), (0, u "()V"), (1, .class_ 10), (1, u "java/lang/Object")] 113

def k0c0 : Code := { maxStack := 0, maxLocals := 1, code := object_method_1_code, exceptionTable := #[], attributes := #[] }
def k0m0 : Method := { name := "<init>", desc := "()V", sig := { parameters := [], returnType := none }, accessFlags := 1, code := some k0c0 }
/-- java/lang/Object -/
def k0 : Class := { plain "java/lang/Object" none with
  accessFlags := 33
  interfaces := #[]
  cf := some (fileOf pool0 8 #[] #[{ accessFlags := 1, nameIndex := 5, descriptorIndex := 6, attributes := #[] }] 33 0 #[] #[])
  fields := #[]
  methods := #[k0m0]
  instanceTypes := #[]
  staticTypes := #[]
  resolved := Array.replicate 124 none
  statics := none }

def pool1 : Array CpInfo := pool [(2, .class_ 4), (1, u "java/lang/Object"), (0, u "<init>"), (0, u "()V"), (0, .class_ 8), (0, u "java/lang/String"), (0, .methodref 7 10), (0, .nameAndType 5 11), (0, u "([C)V"), (0, .integer 2147483647), (0, .methodref 14 15), (0, .class_ 16), (0, .nameAndType 17 18), (0, u "com/example/beforehand/beforehand/TextPartLengthPinLaw"), (0, u "makeAfter"), (0, u "(II)Ljava/lang/String;"), (0, .class_ 20), (0, u "com/example/beforehand/beforehand/TextPart"), (0, .methodref 19 22), (0, .nameAndType 5 23), (0, u "(Ljava/lang/CharSequence;IILjava/lang/String;)V"), (0, .methodref 19 25), (0, .nameAndType 26 27), (0, u "length"), (0, u "()I"), (2, u "law"), (0, u "(IIII)Z")] 5

def k1m0 : Method := { name := "<init>", desc := "()V", sig := { parameters := [], returnType := none }, accessFlags := 1, code := none }
def k1c1 : Code := { maxStack := 6, maxLocals := 12, code := code, exceptionTable := #[], attributes := #[] }
def k1m1 : Method := { name := "law", desc := "(IIII)Z", sig := { parameters := [.int, .int, .int, .int], returnType := some .boolean }, accessFlags := 9, code := some k1c1 }
def k1c2 : Code := { maxStack := 6, maxLocals := 5, code := method_3_code, exceptionTable := #[], attributes := #[] }
def k1m2 : Method := { name := "makeAfter", desc := "(II)Ljava/lang/String;", sig := { parameters := [.int, .int], returnType := some (.object "java/lang/String") }, accessFlags := 10, code := some k1c2 }
/-- com/example/beforehand/beforehand/TextPartLengthPinLaw -/
def k1 : Class := { plain "com/example/beforehand/beforehand/TextPartLengthPinLaw" (some 0) with
  accessFlags := 49
  interfaces := #[]
  cf := some (fileOf pool1 14 #[] #[{ accessFlags := 1, nameIndex := 5, descriptorIndex := 6, attributes := #[] }, { accessFlags := 9, nameIndex := 30, descriptorIndex := 31, attributes := #[] }, { accessFlags := 10, nameIndex := 17, descriptorIndex := 18, attributes := #[] }] 49 2 #[] #[])
  fields := #[]
  methods := #[k1m0, k1m1, k1m2]
  instanceTypes := #[]
  staticTypes := #[]
  resolved := Array.replicate 37 none
  statics := none }

def pool2 : Array CpInfo := pool [(1, .class_ 2), (0, u "java/io/Serializable"), (0, .class_ 4), (0, u "java/lang/Object")] 2

/-- java/io/Serializable -/
def k2 : Class := { plain "java/io/Serializable" (some 0) with
  accessFlags := 1537
  interfaces := #[]
  cf := some (fileOf pool2 1 #[] #[] 1537 3 #[] #[])
  fields := #[]
  methods := #[]
  instanceTypes := #[]
  staticTypes := #[]
  resolved := Array.replicate 7 none
  statics := none }

def pool3 : Array CpInfo := pool [(1, .class_ 2), (0, u "java/lang/Comparable"), (0, .class_ 4), (0, u "java/lang/Object")] 7

/-- java/lang/Comparable -/
def k3 : Class := { plain "java/lang/Comparable" (some 0) with
  accessFlags := 1537
  interfaces := #[]
  cf := some (fileOf pool3 1 #[] #[] 1537 3 #[] #[])
  fields := #[]
  methods := #[]
  instanceTypes := #[]
  staticTypes := #[]
  resolved := Array.replicate 12 none
  statics := none }

def pool4 : Array CpInfo := pool [(2, .class_ 4), (1, u "java/lang/CharSequence"), (42, .class_ 48), (0, u "java/lang/CharSequence$1CodePointIterator"), (10, .class_ 60), (0, u "java/lang/CharSequence$1CharIterator"), (5, .class_ 67), (0, u "java/lang/Object")] 63

/-- java/lang/CharSequence -/
def k4 : Class := { plain "java/lang/CharSequence" (some 0) with
  accessFlags := 1537
  interfaces := #[]
  cf := some (fileOf pool4 2 #[.nestMembers #[47, 59]] #[] 1537 66 #[] #[])
  fields := #[]
  methods := #[]
  instanceTypes := #[]
  staticTypes := #[]
  resolved := Array.replicate 131 none
  statics := none }

def pool5 : Array CpInfo := pool [(1, .class_ 2), (0, u "java/lang/constant/Constable"), (0, .class_ 4), (0, u "java/lang/Object")] 6

/-- java/lang/constant/Constable -/
def k5 : Class := { plain "java/lang/constant/Constable" (some 0) with
  accessFlags := 1537
  interfaces := #[]
  cf := some (fileOf pool5 1 #[] #[] 1537 3 #[] #[])
  fields := #[]
  methods := #[]
  instanceTypes := #[]
  staticTypes := #[]
  resolved := Array.replicate 11 none
  statics := none }

def pool6 : Array CpInfo := pool [(1, .class_ 2), (0, u "java/lang/constant/ConstantDesc"), (0, .class_ 4), (0, u "java/lang/Object")] 32

/-- java/lang/constant/ConstantDesc -/
def k6 : Class := { plain "java/lang/constant/ConstantDesc" (some 0) with
  accessFlags := 1537
  interfaces := #[]
  cf := some (fileOf pool6 1 #[] #[] 1537 3 #[] #[])
  fields := #[]
  methods := #[]
  instanceTypes := #[]
  staticTypes := #[]
  resolved := Array.replicate 37 none
  statics := none }

def pool7 : Array CpInfo := pool [(1, .methodref 2 3), (0, .class_ 4), (0, .nameAndType 5 6), (0, u "java/lang/Object"), (0, u "<init>"), (0, u "()V"), (0, .string 8), (0, u ""), (0, .fieldref 10 11), (0, .class_ 12), (0, .nameAndType 13 14), (0, u "java/lang/String"), (0, u "value"), (0, u "[B"), (0, .fieldref 10 16), (0, .nameAndType 17 18), (0, u "coder"), (0, u "B"), (2, u "hash"), (0, u "I"), (2, u "hashIsZero"), (0, u "Z"), (0, .methodref 10 28), (0, .nameAndType 5 29), (0, u "([CIILjava/lang/Void;)V"), (8, .fieldref 10 39), (0, .nameAndType 40 26), (0, u "COMPACT_STRINGS"), (1, .class_ 44), (1, u "java/lang/StringUTF16"), (0, u "compress"), (1, .methodref 42 48), (0, .nameAndType 49 50), (0, u "coderFromArrayLen"), (0, u "([BI)B"), (126, .methodref 42 178), (0, .nameAndType 45 179), (0, u "([CII)[B"), (154, u "()I"), (0, .methodref 10 336), (0, .nameAndType 17 337), (0, u "()B"), (169, u "length"), (67, .class_ 576), (0, u "java/lang/CharSequence"), (22, u "CASE_INSENSITIVE_ORDER"), (0, u "Ljava/util/Comparator;"), (409, u "([C)V"), (90, u "serialPersistentFields"), (0, u "[Ljava/io/ObjectStreamField;"), (0, .class_ 1104), (0, u "java/lang/String$CaseInsensitiveComparator"), (1, .class_ 1107), (0, u "java/io/Serializable"), (0, .class_ 1109), (0, u "java/lang/Comparable"), (0, .class_ 1111), (0, u "java/lang/constant/Constable"), (0, .class_ 1113), (0, u "java/lang/constant/ConstantDesc"), (2, u "serialVersionUID"), (0, u "J"), (3, u "REPL"), (0, u "C"), (2, u "LATIN1"), (1, u "UTF16")] 323

def k7m0 : Method := { name := "<init>", desc := "()V", sig := { parameters := [], returnType := none }, accessFlags := 1, code := none }
def k7c1 : Code := { maxStack := 5, maxLocals := 2, code := jdk_42_method_3_code, exceptionTable := #[], attributes := #[] }
def k7m1 : Method := { name := "<init>", desc := "([C)V", sig := { parameters := [(.array .char)], returnType := none }, accessFlags := 1, code := some k7c1 }
def k7c2 : Code := { maxStack := 2, maxLocals := 1, code := jdk_42_method_54_code, exceptionTable := #[], attributes := #[] }
def k7m2 : Method := { name := "length", desc := "()I", sig := { parameters := [], returnType := some .int }, accessFlags := 1, code := some k7c2 }
def k7c3 : Code := { maxStack := 4, maxLocals := 6, code := jdk_42_method_149_code, exceptionTable := #[], attributes := #[] }
def k7m3 : Method := { name := "<init>", desc := "([CIILjava/lang/Void;)V", sig := { parameters := [(.array .char), .int, .int, (.object "java/lang/Void")], returnType := none }, accessFlags := 2, code := some k7c3 }
def k7c4 : Code := { maxStack := 1, maxLocals := 1, code := jdk_42_method_152_code, exceptionTable := #[], attributes := #[] }
def k7m4 : Method := { name := "coder", desc := "()B", sig := { parameters := [], returnType := some .byte }, accessFlags := 0, code := some k7c4 }
/-- java/lang/String -/
def k7 : Class := { plain "java/lang/String" (some 0) with
  accessFlags := 49
  interfaces := #[2, 3, 4, 5, 6]
  cf := some (fileOf pool7 10 #[.nestMembers #[1103]] #[{ accessFlags := 1, nameIndex := 5, descriptorIndex := 6, attributes := #[] }, { accessFlags := 1, nameIndex := 5, descriptorIndex := 1010, attributes := #[] }, { accessFlags := 1, nameIndex := 507, descriptorIndex := 334, attributes := #[] }, { accessFlags := 2, nameIndex := 5, descriptorIndex := 29, attributes := #[] }, { accessFlags := 0, nameIndex := 17, descriptorIndex := 337, attributes := #[] }] 49 2 #[1106, 1108, 575, 1110, 1112] #[{ accessFlags := 18, nameIndex := 13, descriptorIndex := 14, attributes := #[] }, { accessFlags := 18, nameIndex := 17, descriptorIndex := 18, attributes := #[] }, { accessFlags := 2, nameIndex := 21, descriptorIndex := 22, attributes := #[] }, { accessFlags := 2, nameIndex := 25, descriptorIndex := 26, attributes := #[] }, { accessFlags := 26, nameIndex := 1116, descriptorIndex := 1117, attributes := #[] }, { accessFlags := 24, nameIndex := 40, descriptorIndex := 26, attributes := #[] }, { accessFlags := 26, nameIndex := 1101, descriptorIndex := 1102, attributes := #[] }, { accessFlags := 26, nameIndex := 1121, descriptorIndex := 1122, attributes := #[] }, { accessFlags := 25, nameIndex := 599, descriptorIndex := 600, attributes := #[] }, { accessFlags := 24, nameIndex := 1125, descriptorIndex := 18, attributes := #[] }, { accessFlags := 24, nameIndex := 1127, descriptorIndex := 18, attributes := #[] }])
  fields := #[{ name := "value", type := (.array .byte), accessFlags := 18, slot := 0, constantValue := 0 }, { name := "coder", type := .byte, accessFlags := 18, slot := 1, constantValue := 0 }, { name := "hash", type := .int, accessFlags := 2, slot := 2, constantValue := 0 }, { name := "hashIsZero", type := .boolean, accessFlags := 2, slot := 3, constantValue := 0 }, { name := "serialVersionUID", type := .long, accessFlags := 26, slot := 0, constantValue := 0 }, { name := "COMPACT_STRINGS", type := .boolean, accessFlags := 24, slot := 1, constantValue := 0 }, { name := "serialPersistentFields", type := (.array (.object "java/io/ObjectStreamField")), accessFlags := 26, slot := 2, constantValue := 0 }, { name := "REPL", type := .char, accessFlags := 26, slot := 3, constantValue := 0 }, { name := "CASE_INSENSITIVE_ORDER", type := (.object "java/util/Comparator"), accessFlags := 25, slot := 4, constantValue := 0 }, { name := "LATIN1", type := .byte, accessFlags := 24, slot := 5, constantValue := 0 }, { name := "UTF16", type := .byte, accessFlags := 24, slot := 6, constantValue := 0 }]
  methods := #[k7m0, k7m1, k7m2, k7m3, k7m4]
  instanceTypes := #[(.array .byte), .byte, .int, .boolean]
  staticTypes := #[.long, .boolean, (.array (.object "java/io/ObjectStreamField")), .char, (.object "java/util/Comparator"), .byte, .byte]
  resolved := Array.replicate 1451 none
  statics := some 0 }

def pool8 : Array CpInfo := pool [(6, .class_ 8), (1, u "java/lang/Object"), (0, u "<init>"), (0, u "()V"), (1, .class_ 14), (1, u "java/lang/StringUTF16"), (31, u "$assertionsDisabled"), (0, u "Z"), (13, u "HI_BYTE_SHIFT"), (0, u "I"), (2, u "LO_BYTE_SHIFT"), (49, .methodref 12 116), (0, .nameAndType 117 118), (0, u "compress"), (0, u "([CI[BII)I"), (3, u "([CII)[B"), (138, u "coderFromArrayLen"), (0, u "([BI)B"), (106, .class_ 371), (1, u "java/lang/StringUTF16$LinesSpliterator"), (58, u "MAX_LENGTH"), (196, .class_ 628), (0, u "java/lang/StringUTF16$CodePointsSpliterator"), (0, .class_ 630), (0, u "java/lang/StringUTF16$CharsSpliterator")] 4

def k8m0 : Method := { name := "<init>", desc := "()V", sig := { parameters := [], returnType := none }, accessFlags := 0, code := none }
def k8c1 : Code := { maxStack := 2, maxLocals := 2, code := jdk_52_method_15_code, exceptionTable := #[], attributes := #[] }
def k8m1 : Method := { name := "coderFromArrayLen", desc := "([BI)B", sig := { parameters := [(.array .byte), .int], returnType := some .byte }, accessFlags := 8, code := some k8c1 }
def k8c2 : Code := { maxStack := 5, maxLocals := 6, code := jdk_52_method_16_code, exceptionTable := #[], attributes := #[] }
def k8m2 : Method := { name := "compress", desc := "([CII)[B", sig := { parameters := [(.array .char), .int, .int], returnType := some (.array .byte) }, accessFlags := 9, code := some k8c2 }
def k8c3 : Code := { maxStack := 3, maxLocals := 7, code := jdk_52_method_21_code, exceptionTable := #[], attributes := #[] }
def k8m3 : Method := { name := "compress", desc := "([CI[BII)I", sig := { parameters := [(.array .char), .int, (.array .byte), .int, .int], returnType := some .int }, accessFlags := 9, code := some k8c3 }
/-- java/lang/StringUTF16 -/
def k8 : Class := { plain "java/lang/StringUTF16" (some 0) with
  accessFlags := 48
  interfaces := #[]
  cf := some (fileOf pool8 12 #[.nestMembers #[627, 629, 369]] #[{ accessFlags := 0, nameIndex := 9, descriptorIndex := 10, attributes := #[] }, { accessFlags := 8, nameIndex := 261, descriptorIndex := 262, attributes := #[] }, { accessFlags := 9, nameIndex := 117, descriptorIndex := 122, attributes := #[] }, { accessFlags := 9, nameIndex := 117, descriptorIndex := 118, attributes := #[] }] 48 6 #[] #[{ accessFlags := 26, nameIndex := 61, descriptorIndex := 62, attributes := #[] }, { accessFlags := 26, nameIndex := 65, descriptorIndex := 62, attributes := #[] }, { accessFlags := 24, nameIndex := 430, descriptorIndex := 62, attributes := #[] }, { accessFlags := 4120, nameIndex := 46, descriptorIndex := 47, attributes := #[] }])
  fields := #[{ name := "HI_BYTE_SHIFT", type := .int, accessFlags := 26, slot := 0, constantValue := 0 }, { name := "LO_BYTE_SHIFT", type := .int, accessFlags := 26, slot := 1, constantValue := 0 }, { name := "MAX_LENGTH", type := .int, accessFlags := 24, slot := 2, constantValue := 0 }, { name := "$assertionsDisabled", type := .boolean, accessFlags := 4120, slot := 3, constantValue := 0 }]
  methods := #[k8m0, k8m1, k8m2, k8m3]
  instanceTypes := #[]
  staticTypes := #[.int, .int, .int, .boolean]
  resolved := Array.replicate 635 none
  statics := none }

def pool9 : Array CpInfo := pool [(1, .methodref 2 3), (0, .class_ 4), (0, .nameAndType 5 6), (0, u "java/lang/Object"), (0, u "<init>"), (0, u "()V"), (0, .class_ 8), (0, u "java/lang/Record")] 13

def k9c0 : Code := { maxStack := 1, maxLocals := 1, code := jdk_30_method_1_code, exceptionTable := #[], attributes := #[] }
def k9m0 : Method := { name := "<init>", desc := "()V", sig := { parameters := [], returnType := none }, accessFlags := 4, code := some k9c0 }
/-- java/lang/Record -/
def k9 : Class := { plain "java/lang/Record" (some 0) with
  accessFlags := 1057
  interfaces := #[]
  cf := some (fileOf pool9 7 #[] #[{ accessFlags := 4, nameIndex := 5, descriptorIndex := 6, attributes := #[] }] 1057 2 #[] #[])
  fields := #[]
  methods := #[k9m0]
  instanceTypes := #[]
  staticTypes := #[]
  resolved := Array.replicate 22 none
  statics := none }

def pool10 : Array CpInfo := pool [(1, .methodref 2 3), (0, .class_ 4), (0, .nameAndType 5 6), (0, u "java/lang/Record"), (0, u "<init>"), (0, u "()V"), (0, .fieldref 8 9), (0, .class_ 10), (0, .nameAndType 11 12), (0, u "com/example/beforehand/beforehand/TextPart"), (0, u "text"), (0, u "Ljava/lang/CharSequence;"), (0, .fieldref 8 14), (0, .nameAndType 15 16), (0, u "from"), (0, u "I"), (0, .fieldref 8 18), (0, .nameAndType 19 16), (0, u "end"), (0, .fieldref 8 21), (0, .nameAndType 22 23), (0, u "after"), (0, u "Ljava/lang/String;"), (0, .methodref 25 26), (0, .class_ 27), (0, .nameAndType 28 29), (0, u "java/lang/String"), (0, u "length"), (0, u "()I"), (8, .class_ 40), (1, u "java/lang/CharSequence"), (47, u "(Ljava/lang/CharSequence;IILjava/lang/String;)V")] 37

def k10c0 : Code := { maxStack := 2, maxLocals := 5, code := prog_40_method_1_code, exceptionTable := #[], attributes := #[] }
def k10m0 : Method := { name := "<init>", desc := "(Ljava/lang/CharSequence;IILjava/lang/String;)V", sig := { parameters := [(.object "java/lang/CharSequence"), .int, .int, (.object "java/lang/String")], returnType := none }, accessFlags := 0, code := some k10c0 }
def k10c1 : Code := { maxStack := 2, maxLocals := 1, code := prog_40_method_2_code, exceptionTable := #[], attributes := #[] }
def k10m1 : Method := { name := "length", desc := "()I", sig := { parameters := [], returnType := some .int }, accessFlags := 1, code := some k10c1 }
/-- com/example/beforehand/beforehand/TextPart -/
def k10 : Class := { plain "com/example/beforehand/beforehand/TextPart" (some 9) with
  accessFlags := 48
  interfaces := #[4]
  cf := some (fileOf pool10 8 #[] #[{ accessFlags := 0, nameIndex := 5, descriptorIndex := 88, attributes := #[] }, { accessFlags := 1, nameIndex := 28, descriptorIndex := 29, attributes := #[] }] 48 2 #[38] #[{ accessFlags := 18, nameIndex := 11, descriptorIndex := 12, attributes := #[] }, { accessFlags := 18, nameIndex := 15, descriptorIndex := 16, attributes := #[] }, { accessFlags := 18, nameIndex := 19, descriptorIndex := 16, attributes := #[] }, { accessFlags := 18, nameIndex := 22, descriptorIndex := 23, attributes := #[] }])
  fields := #[{ name := "text", type := (.object "java/lang/CharSequence"), accessFlags := 18, slot := 0, constantValue := 0 }, { name := "from", type := .int, accessFlags := 18, slot := 1, constantValue := 0 }, { name := "end", type := .int, accessFlags := 18, slot := 2, constantValue := 0 }, { name := "after", type := (.object "java/lang/String"), accessFlags := 18, slot := 3, constantValue := 0 }]
  methods := #[k10m0, k10m1]
  instanceTypes := #[(.object "java/lang/CharSequence"), .int, .int, (.object "java/lang/String")]
  staticTypes := #[]
  resolved := Array.replicate 126 none
  statics := none }

def pool11 : Array CpInfo := pool [(4, .class_ 6), (1, u "java/lang/Object"), (0, u "<init>"), (0, u "()V"), (5, .class_ 16), (1, u "java/lang/StringLatin1"), (104, u "$assertionsDisabled"), (0, u "Z"), (98, .class_ 223), (1, u "java/lang/StringLatin1$LinesSpliterator"), (166, .class_ 391), (0, u "java/lang/StringLatin1$CharsSpliterator")] 3

def k11m0 : Method := { name := "<init>", desc := "()V", sig := { parameters := [], returnType := none }, accessFlags := 0, code := none }
/-- java/lang/StringLatin1 -/
def k11 : Class := { plain "java/lang/StringLatin1" (some 0) with
  accessFlags := 48
  interfaces := #[]
  cf := some (fileOf pool11 14 #[.nestMembers #[390, 221]] #[{ accessFlags := 0, nameIndex := 7, descriptorIndex := 8, attributes := #[] }] 48 4 #[] #[{ accessFlags := 4120, nameIndex := 121, descriptorIndex := 122, attributes := #[] }])
  fields := #[{ name := "$assertionsDisabled", type := .boolean, accessFlags := 4120, slot := 0, constantValue := 0 }]
  methods := #[k11m0]
  instanceTypes := #[]
  staticTypes := #[.boolean]
  resolved := Array.replicate 395 none
  statics := none }

def pool12 : Array CpInfo := pool [(2, .class_ 4), (1, u "java/lang/Object"), (0, u "<init>"), (0, u "()V"), (17, .class_ 26), (1, u "jdk/internal/util/Preconditions"), (28, .class_ 56), (0, u "jdk/internal/util/Preconditions$4"), (57, .class_ 115), (0, u "jdk/internal/util/Preconditions$1"), (7, u "SIOOBE_FORMATTER"), (0, u "Ljava/util/function/BiFunction;"), (0, .class_ 126), (0, u "jdk/internal/util/Preconditions$2"), (3, u "AIOOBE_FORMATTER"), (0, .class_ 132), (0, u "jdk/internal/util/Preconditions$3"), (3, u "IOOBE_FORMATTER")] 57

def k12m0 : Method := { name := "<init>", desc := "()V", sig := { parameters := [], returnType := none }, accessFlags := 1, code := none }
/-- jdk/internal/util/Preconditions -/
def k12 : Class := { plain "jdk/internal/util/Preconditions" (some 0) with
  accessFlags := 33
  interfaces := #[]
  cf := some (fileOf pool12 24 #[.nestMembers #[55, 131, 125, 114]] #[{ accessFlags := 1, nameIndex := 5, descriptorIndex := 6, attributes := #[] }] 33 2 #[] #[{ accessFlags := 25, nameIndex := 123, descriptorIndex := 124, attributes := #[] }, { accessFlags := 25, nameIndex := 130, descriptorIndex := 124, attributes := #[] }, { accessFlags := 25, nameIndex := 136, descriptorIndex := 124, attributes := #[] }])
  fields := #[{ name := "SIOOBE_FORMATTER", type := (.object "java/util/function/BiFunction"), accessFlags := 25, slot := 0, constantValue := 0 }, { name := "AIOOBE_FORMATTER", type := (.object "java/util/function/BiFunction"), accessFlags := 25, slot := 1, constantValue := 0 }, { name := "IOOBE_FORMATTER", type := (.object "java/util/function/BiFunction"), accessFlags := 25, slot := 2, constantValue := 0 }]
  methods := #[k12m0]
  instanceTypes := #[]
  staticTypes := #[(.object "java/util/function/BiFunction"), (.object "java/util/function/BiFunction"), (.object "java/util/function/BiFunction")]
  resolved := Array.replicate 194 none
  statics := some 1 }

def pool13 : Array CpInfo := pool [(9, u "<init>"), (6, .class_ 18), (1, u "java/lang/Object"), (0, u "()V"), (1, .class_ 23), (1, u "jdk/internal/util/ArraysSupport"), (0, u "LOG2_ARRAY_LONG_INDEX_SCALE"), (0, u "I"), (2, u "U"), (0, u "Ljdk/internal/misc/Unsafe;"), (8, u "BIG_ENDIAN"), (0, u "Z"), (8, u "LOG2_BYTE_BIT_SIZE"), (4, u "LOG2_ARRAY_INT_INDEX_SCALE"), (54, u "JLA"), (0, u "Ljdk/internal/access/JavaLangAccess;"), (11, u "LOG2_ARRAY_BOOLEAN_INDEX_SCALE"), (9, u "LOG2_ARRAY_BYTE_INDEX_SCALE"), (5, u "LOG2_ARRAY_CHAR_INDEX_SCALE"), (5, u "LOG2_ARRAY_SHORT_INDEX_SCALE"), (18, u "LOG2_ARRAY_FLOAT_INDEX_SCALE"), (24, u "LOG2_ARRAY_DOUBLE_INDEX_SCALE"), (89, u "T_BOOLEAN"), (2, u "T_CHAR"), (1, u "T_FLOAT"), (1, u "T_DOUBLE"), (1, u "T_BYTE"), (1, u "T_SHORT"), (1, u "T_INT"), (1, u "T_LONG"), (1, u "SOFT_MAX_ARRAY_LENGTH")] 83

def k13m0 : Method := { name := "<init>", desc := "()V", sig := { parameters := [], returnType := none }, accessFlags := 2, code := none }
/-- jdk/internal/util/ArraysSupport -/
def k13 : Class := { plain "jdk/internal/util/ArraysSupport" (some 0) with
  accessFlags := 33
  interfaces := #[]
  cf := some (fileOf pool13 21 #[] #[{ accessFlags := 2, nameIndex := 9, descriptorIndex := 19, attributes := #[] }] 33 16 #[] #[{ accessFlags := 24, nameIndex := 28, descriptorIndex := 29, attributes := #[] }, { accessFlags := 26, nameIndex := 38, descriptorIndex := 39, attributes := #[] }, { accessFlags := 25, nameIndex := 121, descriptorIndex := 25, attributes := #[] }, { accessFlags := 25, nameIndex := 131, descriptorIndex := 25, attributes := #[] }, { accessFlags := 25, nameIndex := 137, descriptorIndex := 25, attributes := #[] }, { accessFlags := 25, nameIndex := 143, descriptorIndex := 25, attributes := #[] }, { accessFlags := 25, nameIndex := 53, descriptorIndex := 25, attributes := #[] }, { accessFlags := 25, nameIndex := 24, descriptorIndex := 25, attributes := #[] }, { accessFlags := 25, nameIndex := 162, descriptorIndex := 25, attributes := #[] }, { accessFlags := 25, nameIndex := 187, descriptorIndex := 25, attributes := #[] }, { accessFlags := 26, nameIndex := 48, descriptorIndex := 25, attributes := #[] }, { accessFlags := 25, nameIndex := 277, descriptorIndex := 25, attributes := #[] }, { accessFlags := 25, nameIndex := 280, descriptorIndex := 25, attributes := #[] }, { accessFlags := 25, nameIndex := 282, descriptorIndex := 25, attributes := #[] }, { accessFlags := 25, nameIndex := 284, descriptorIndex := 25, attributes := #[] }, { accessFlags := 25, nameIndex := 286, descriptorIndex := 25, attributes := #[] }, { accessFlags := 25, nameIndex := 288, descriptorIndex := 25, attributes := #[] }, { accessFlags := 25, nameIndex := 290, descriptorIndex := 25, attributes := #[] }, { accessFlags := 25, nameIndex := 292, descriptorIndex := 25, attributes := #[] }, { accessFlags := 26, nameIndex := 108, descriptorIndex := 109, attributes := #[] }, { accessFlags := 25, nameIndex := 294, descriptorIndex := 25, attributes := #[] }])
  fields := #[{ name := "U", type := (.object "jdk/internal/misc/Unsafe"), accessFlags := 24, slot := 0, constantValue := 0 }, { name := "BIG_ENDIAN", type := .boolean, accessFlags := 26, slot := 1, constantValue := 0 }, { name := "LOG2_ARRAY_BOOLEAN_INDEX_SCALE", type := .int, accessFlags := 25, slot := 2, constantValue := 0 }, { name := "LOG2_ARRAY_BYTE_INDEX_SCALE", type := .int, accessFlags := 25, slot := 3, constantValue := 0 }, { name := "LOG2_ARRAY_CHAR_INDEX_SCALE", type := .int, accessFlags := 25, slot := 4, constantValue := 0 }, { name := "LOG2_ARRAY_SHORT_INDEX_SCALE", type := .int, accessFlags := 25, slot := 5, constantValue := 0 }, { name := "LOG2_ARRAY_INT_INDEX_SCALE", type := .int, accessFlags := 25, slot := 6, constantValue := 0 }, { name := "LOG2_ARRAY_LONG_INDEX_SCALE", type := .int, accessFlags := 25, slot := 7, constantValue := 0 }, { name := "LOG2_ARRAY_FLOAT_INDEX_SCALE", type := .int, accessFlags := 25, slot := 8, constantValue := 0 }, { name := "LOG2_ARRAY_DOUBLE_INDEX_SCALE", type := .int, accessFlags := 25, slot := 9, constantValue := 0 }, { name := "LOG2_BYTE_BIT_SIZE", type := .int, accessFlags := 26, slot := 10, constantValue := 0 }, { name := "T_BOOLEAN", type := .int, accessFlags := 25, slot := 11, constantValue := 0 }, { name := "T_CHAR", type := .int, accessFlags := 25, slot := 12, constantValue := 0 }, { name := "T_FLOAT", type := .int, accessFlags := 25, slot := 13, constantValue := 0 }, { name := "T_DOUBLE", type := .int, accessFlags := 25, slot := 14, constantValue := 0 }, { name := "T_BYTE", type := .int, accessFlags := 25, slot := 15, constantValue := 0 }, { name := "T_SHORT", type := .int, accessFlags := 25, slot := 16, constantValue := 0 }, { name := "T_INT", type := .int, accessFlags := 25, slot := 17, constantValue := 0 }, { name := "T_LONG", type := .int, accessFlags := 25, slot := 18, constantValue := 0 }, { name := "JLA", type := (.object "jdk/internal/access/JavaLangAccess"), accessFlags := 26, slot := 19, constantValue := 0 }, { name := "SOFT_MAX_ARRAY_LENGTH", type := .int, accessFlags := 25, slot := 20, constantValue := 0 }]
  methods := #[k13m0]
  instanceTypes := #[]
  staticTypes := #[(.object "jdk/internal/misc/Unsafe"), .boolean, .int, .int, .int, .int, .int, .int, .int, .int, .int, .int, .int, .int, .int, .int, .int, .int, .int, (.object "jdk/internal/access/JavaLangAccess"), .int]
  resolved := Array.replicate 378 none
  statics := none }

def pool14 : Array CpInfo := pool [(1, u "java/lang/Cloneable"), (0, .class_ 1), (0, u "java/lang/Object"), (0, .class_ 3)] 3

/-- java/lang/Cloneable -/
def k14 : Class := { plain "java/lang/Cloneable" (some 0) with
  accessFlags := 1537
  interfaces := #[]
  cf := some (fileOf pool14 2 #[] #[] 1537 4 #[] #[])
  fields := #[]
  methods := #[]
  instanceTypes := #[]
  staticTypes := #[]
  resolved := Array.replicate 8 none
  statics := none }

/-- the primitive byte -/
def k15 : Class := { plain "byte" none with kind := .primitive 'B', accessFlags := 0x411 }
/-- [B -/
def k16 : Class := { plain "[B" (some 0) with kind := .array 15 .byte, interfaces := #[14, 2], accessFlags := 1041 }

/-- the primitive char -/
def k17 : Class := { plain "char" none with kind := .primitive 'C', accessFlags := 0x411 }
/-- [C -/
def k18 : Class := { plain "[C" (some 0) with kind := .array 17 .char, interfaces := #[14, 2], accessFlags := 1041 }

/-- the primitive int -/
def k19 : Class := { plain "int" none with kind := .primitive 'I', accessFlags := 0x411 }
/-- [I -/
def k20 : Class := { plain "[I" (some 0) with kind := .array 19 .int, interfaces := #[14, 2], accessFlags := 1041 }

def heap : Heap := #[{ cls := 7, slots := #[.long 0, .int 1, .null, .int 0, .null, .int 0, .int 0], vm := .statics 7 },
  { cls := 12, slots := #[.null, .null, .null], vm := .statics 12 }]
def classes : Array Class := #[k0, k1, k2, k3, k4, k5, k6, k7, k8, k9, k10, k11, k12, k13, k14, k15, k16, k17, k18, k19, k20]
def interned : List (Array UInt16 × Addr) := []
def slotsUsed : Nat := 10
def theMethod : MethodId := ⟨1, 1⟩
def args0 : Array Value := #[.int 5, .int 7, .int 3, .int 9]
def aboutOver (below : List Frame) : State where
  vm := { classes := classes, interned := interned.toArray }
  heap := heap
  slotsUsed := slotsUsed
  threads := #[{ frames := .invoking theMethod args0 :: below }]
def below0 : List Frame := [.native { method := ⟨0, 0⟩, args := #[] }]
def about1 : State := aboutOver below0
def p0 : Program := .bare "" "" ""
def e0 : Env := launch0.env 0 0 0
theorem w_frames : about1.frames = Frame.invoking theMethod args0 :: below0 := rfl
set_option maxRecDepth 65536 in
theorem w_args : argsFit about1.vm theMethod args0 = true := by decide +kernel
set_option maxRecDepth 65536 in
theorem w_heap : heapFits about1 = true := by decide +kernel
set_option maxRecDepth 65536 in
theorem w_runnable : about1.curStatus? = some .runnable := by decide +kernel
set_option maxRecDepth 65536 in
theorem w_alone : about1.alone = true := by decide +kernel
set_option maxRecDepth 65536 in
theorem w_named : about1.methodNamed? x = some theMethod := by decide +kernel
set_option maxRecDepth 65536 in
theorem w_hears : about1.hears theMethod below0 = true := by decide +kernel
set_option maxRecDepth 65536 in
theorem w_ripe : about1.ripe theMethod args0 below0 = true := by decide +kernel
theorem w_running : about1.status = .running := rfl
set_option maxRecDepth 65536 in
theorem w_room : about1.hasRoom e0.platform room_1 = true :=
  launch0.hasRoom_least _ room_1 (by decide +kernel) (by decide +kernel) (by decide +kernel) (by decide +kernel) (by decide +kernel) (by decide +kernel)
theorem allAtoms_all (ts : List Jvm.Cond) (a : Array Jvm.Value) (st : Jvm.State) : (allAtoms ts).before a st = ts.all (fun c => c.before a st) := by
  induction ts with
  | nil => rfl
  | cons c t ih =>
    show (Jvm.Cond.and c (allAtoms t)).before a st = _
    rw [Jvm.Cond.before_and, ih, List.all_cons]
def words1 : List Jvm.Cond := Jvm.Cond.code x code maxLocals ret :: tables_1
/-- a 'code' word, met by the world's own term for the bytes: nothing is compared byte by byte -/
theorem code_word {y : MethodName} {bytes : ByteArray} {mx : Nat} {rt : Option FieldType} {a : Array Value} {s : State} {m : MethodId} {meth : Method} {c : Code} (h1 : s.methodNamed? y = some m) (h2 : s.vm.method? m = some meth) (h3 : meth.code = some c) (h4 : c.code = bytes)
    (h5 : (c.maxLocals == mx && c.exceptionTable.isEmpty && decide (c.maxStack ≤ mostOperands) && decide (meth.sig.returnType = rt) && !meth.locks && decide (parseMethodDescriptor y.desc = some meth.sig)) = true) : (Jvm.Cond.code y bytes mx rt).before a s = true := by
  simp only [Bool.and_eq_true, beq_iff_eq, Bool.not_eq_true', decide_eq_true_eq] at h5
  obtain ⟨⟨⟨⟨⟨g1, g2⟩, g3⟩, g4⟩, g5⟩, g6⟩ := h5
  simp [Cond.before, Cond.holds, Cond.value, h1, h2, h3, h4, g1, g2, g3, g4, g5, g6]
def isCode : Jvm.Cond → Bool
  | .code _ _ _ _ => true
  | _ => false
theorem all_split {L : List Jvm.Cond} {P : Jvm.Cond → Bool} (h1 : L.all (fun c => isCode c || P c) = true) (h2 : ∀ c ∈ L.filter isCode, P c = true) : L.all P = true := by
  refine List.all_eq_true.mpr fun c hc => ?_
  have h := List.all_eq_true.mp h1 c hc
  rcases Bool.eq_false_or_eq_true (isCode c) with hi | hi
  · exact h2 c (List.mem_filter.mpr ⟨hc, hi⟩)
  · simpa [hi] using h
set_option maxRecDepth 65536 in
theorem w_c0 : (Jvm.Cond.code x code maxLocals ret).before args0 about1 = true := code_word (m := ⟨1, 1⟩) (meth := k1m1) (c := k1c1) (by decide +kernel) rfl rfl rfl (by decide +kernel)
set_option maxRecDepth 65536 in
theorem w_c1 : (Jvm.Cond.code ({ cls := "java/lang/String", name := "<init>", desc := "([C)V" } : Jvm.MethodName) jdk_42_method_3_code (2 : Nat) (Option.none : Option Jvm.ClassFile.FieldType)).before args0 about1 = true := code_word (m := ⟨7, 1⟩) (meth := k7m1) (c := k7c1) (by decide +kernel) rfl rfl rfl (by decide +kernel)
set_option maxRecDepth 65536 in
theorem w_c2 : (Jvm.Cond.code ({ cls := "java/lang/String", name := "<init>", desc := "([CIILjava/lang/Void;)V" } : Jvm.MethodName) jdk_42_method_149_code (6 : Nat) (Option.none : Option Jvm.ClassFile.FieldType)).before args0 about1 = true := code_word (m := ⟨7, 3⟩) (meth := k7m3) (c := k7c3) (by decide +kernel) rfl rfl rfl (by decide +kernel)
set_option maxRecDepth 65536 in
theorem w_c3 : (Jvm.Cond.code ({ cls := "java/lang/Object", name := "<init>", desc := "()V" } : Jvm.MethodName) object_method_1_code (1 : Nat) (Option.none : Option Jvm.ClassFile.FieldType)).before args0 about1 = true := code_word (m := ⟨0, 0⟩) (meth := k0m0) (c := k0c0) (by decide +kernel) rfl rfl rfl (by decide +kernel)
set_option maxRecDepth 65536 in
theorem w_c4 : (Jvm.Cond.code ({ cls := "java/lang/StringUTF16", name := "compress", desc := "([CII)[B" } : Jvm.MethodName) jdk_52_method_16_code (6 : Nat) (Option.some (Jvm.ClassFile.FieldType.array Jvm.ClassFile.FieldType.byte))).before args0 about1 = true := code_word (m := ⟨8, 2⟩) (meth := k8m2) (c := k8c2) (by decide +kernel) rfl rfl rfl (by decide +kernel)
set_option maxRecDepth 65536 in
theorem w_c5 : (Jvm.Cond.code ({ cls := "java/lang/StringUTF16", name := "compress", desc := "([CI[BII)I" } : Jvm.MethodName) jdk_52_method_21_code (7 : Nat) (Option.some Jvm.ClassFile.FieldType.int)).before args0 about1 = true := code_word (m := ⟨8, 3⟩) (meth := k8m3) (c := k8c3) (by decide +kernel) rfl rfl rfl (by decide +kernel)
set_option maxRecDepth 65536 in
theorem w_c6 : (Jvm.Cond.code ({ cls := "java/lang/StringUTF16", name := "coderFromArrayLen", desc := "([BI)B" } : Jvm.MethodName) jdk_52_method_15_code (2 : Nat) (Option.some Jvm.ClassFile.FieldType.byte)).before args0 about1 = true := code_word (m := ⟨8, 1⟩) (meth := k8m1) (c := k8c1) (by decide +kernel) rfl rfl rfl (by decide +kernel)
set_option maxRecDepth 65536 in
theorem w_c7 : (Jvm.Cond.code ({ cls := "com/example/beforehand/beforehand/TextPartLengthPinLaw", name := "makeAfter", desc := "(II)Ljava/lang/String;" } : Jvm.MethodName) method_3_code (5 : Nat) (Option.some (Jvm.ClassFile.FieldType.object "java/lang/String"))).before args0 about1 = true := code_word (m := ⟨1, 2⟩) (meth := k1m2) (c := k1c2) (by decide +kernel) rfl rfl rfl (by decide +kernel)
set_option maxRecDepth 65536 in
theorem w_c8 : (Jvm.Cond.code ({ cls := "com/example/beforehand/beforehand/TextPart", name := "<init>", desc := "(Ljava/lang/CharSequence;IILjava/lang/String;)V" } : Jvm.MethodName) prog_40_method_1_code (5 : Nat) (Option.none : Option Jvm.ClassFile.FieldType)).before args0 about1 = true := code_word (m := ⟨10, 0⟩) (meth := k10m0) (c := k10c0) (by decide +kernel) rfl rfl rfl (by decide +kernel)
set_option maxRecDepth 65536 in
theorem w_c9 : (Jvm.Cond.code ({ cls := "java/lang/Record", name := "<init>", desc := "()V" } : Jvm.MethodName) jdk_30_method_1_code (1 : Nat) (Option.none : Option Jvm.ClassFile.FieldType)).before args0 about1 = true := code_word (m := ⟨9, 0⟩) (meth := k9m0) (c := k9c0) (by decide +kernel) rfl rfl rfl (by decide +kernel)
set_option maxRecDepth 65536 in
theorem w_c10 : (Jvm.Cond.code ({ cls := "com/example/beforehand/beforehand/TextPart", name := "length", desc := "()I" } : Jvm.MethodName) prog_40_method_2_code (1 : Nat) (Option.some Jvm.ClassFile.FieldType.int)).before args0 about1 = true := code_word (m := ⟨10, 1⟩) (meth := k10m1) (c := k10c1) (by decide +kernel) rfl rfl rfl (by decide +kernel)
set_option maxRecDepth 65536 in
theorem w_c11 : (Jvm.Cond.code ({ cls := "java/lang/String", name := "length", desc := "()I" } : Jvm.MethodName) jdk_42_method_54_code (1 : Nat) (Option.some Jvm.ClassFile.FieldType.int)).before args0 about1 = true := code_word (m := ⟨7, 2⟩) (meth := k7m2) (c := k7c2) (by decide +kernel) rfl rfl rfl (by decide +kernel)
set_option maxRecDepth 65536 in
theorem w_c12 : (Jvm.Cond.code ({ cls := "java/lang/String", name := "coder", desc := "()B" } : Jvm.MethodName) jdk_42_method_152_code (1 : Nat) (Option.some Jvm.ClassFile.FieldType.byte)).before args0 about1 = true := code_word (m := ⟨7, 4⟩) (meth := k7m4) (c := k7c4) (by decide +kernel) rfl rfl rfl (by decide +kernel)
def codes1 : List Jvm.Cond := [Jvm.Cond.code x code maxLocals ret, Jvm.Cond.code ({ cls := "java/lang/String", name := "<init>", desc := "([C)V" } : Jvm.MethodName) jdk_42_method_3_code (2 : Nat) (Option.none : Option Jvm.ClassFile.FieldType), Jvm.Cond.code ({ cls := "java/lang/String", name := "<init>", desc := "([CIILjava/lang/Void;)V" } : Jvm.MethodName) jdk_42_method_149_code (6 : Nat) (Option.none : Option Jvm.ClassFile.FieldType), Jvm.Cond.code ({ cls := "java/lang/Object", name := "<init>", desc := "()V" } : Jvm.MethodName) object_method_1_code (1 : Nat) (Option.none : Option Jvm.ClassFile.FieldType), Jvm.Cond.code ({ cls := "java/lang/StringUTF16", name := "compress", desc := "([CII)[B" } : Jvm.MethodName) jdk_52_method_16_code (6 : Nat) (Option.some (Jvm.ClassFile.FieldType.array Jvm.ClassFile.FieldType.byte)), Jvm.Cond.code ({ cls := "java/lang/StringUTF16", name := "compress", desc := "([CI[BII)I" } : Jvm.MethodName) jdk_52_method_21_code (7 : Nat) (Option.some Jvm.ClassFile.FieldType.int), Jvm.Cond.code ({ cls := "java/lang/StringUTF16", name := "coderFromArrayLen", desc := "([BI)B" } : Jvm.MethodName) jdk_52_method_15_code (2 : Nat) (Option.some Jvm.ClassFile.FieldType.byte), Jvm.Cond.code ({ cls := "com/example/beforehand/beforehand/TextPartLengthPinLaw", name := "makeAfter", desc := "(II)Ljava/lang/String;" } : Jvm.MethodName) method_3_code (5 : Nat) (Option.some (Jvm.ClassFile.FieldType.object "java/lang/String")), Jvm.Cond.code ({ cls := "com/example/beforehand/beforehand/TextPart", name := "<init>", desc := "(Ljava/lang/CharSequence;IILjava/lang/String;)V" } : Jvm.MethodName) prog_40_method_1_code (5 : Nat) (Option.none : Option Jvm.ClassFile.FieldType), Jvm.Cond.code ({ cls := "java/lang/Record", name := "<init>", desc := "()V" } : Jvm.MethodName) jdk_30_method_1_code (1 : Nat) (Option.none : Option Jvm.ClassFile.FieldType), Jvm.Cond.code ({ cls := "com/example/beforehand/beforehand/TextPart", name := "length", desc := "()I" } : Jvm.MethodName) prog_40_method_2_code (1 : Nat) (Option.some Jvm.ClassFile.FieldType.int), Jvm.Cond.code ({ cls := "java/lang/String", name := "length", desc := "()I" } : Jvm.MethodName) jdk_42_method_54_code (1 : Nat) (Option.some Jvm.ClassFile.FieldType.int), Jvm.Cond.code ({ cls := "java/lang/String", name := "coder", desc := "()B" } : Jvm.MethodName) jdk_42_method_152_code (1 : Nat) (Option.some Jvm.ClassFile.FieldType.byte)]
set_option maxRecDepth 65536 in
theorem codes_eq : words1.filter isCode = codes1 := rfl
theorem w_codes : ∀ c ∈ words1.filter isCode, c.before args0 about1 = true := by
  rw [codes_eq]
  intro c hc
  simp only [codes1, List.mem_cons, List.not_mem_nil, or_false] at hc
  rcases hc with rfl | rfl | rfl | rfl | rfl | rfl | rfl | rfl | rfl | rfl | rfl | rfl | rfl
  · exact w_c0
  · exact w_c1
  · exact w_c2
  · exact w_c3
  · exact w_c4
  · exact w_c5
  · exact w_c6
  · exact w_c7
  · exact w_c8
  · exact w_c9
  · exact w_c10
  · exact w_c11
  · exact w_c12
set_option maxRecDepth 65536 in
theorem w_t1 : (words1.take 24).all (fun c => isCode c || c.before args0 about1) = true := by decide +kernel
set_option maxRecDepth 65536 in
theorem w_t2 : ((words1.drop 24).take 24).all (fun c => isCode c || c.before args0 about1) = true := by decide +kernel
set_option maxRecDepth 65536 in
theorem w_t3 : (((words1.drop 24).drop 24).take 24).all (fun c => isCode c || c.before args0 about1) = true := by decide +kernel
set_option maxRecDepth 65536 in
theorem w_t4 : (((words1.drop 24).drop 24).drop 24).all (fun c => isCode c || c.before args0 about1) = true := by decide +kernel
theorem w_tables : (allAtoms (Jvm.Cond.code x code maxLocals ret :: tables_1)).before args0 about1 = true := by
  rw [allAtoms_all]
  show words1.all (fun c => c.before args0 about1) = true
  refine all_split ?_ w_codes
  rw [← List.take_append_drop 24 words1, List.all_append, w_t1, ← List.take_append_drop 24 (words1.drop 24), List.all_append, w_t2, ← List.take_append_drop 24 ((words1.drop 24).drop 24), List.all_append, w_t3, w_t4]
  rfl
set_option maxRecDepth 65536 in
theorem w_rest : rest_1_c.before args0 about1 = true := by decide +kernel
set_option maxRecDepth 65536 in
theorem w_case : (Jvm.Cond.and given_1 narrow_1).before args0 about1 = true := by decide +kernel
set_option maxRecDepth 65536 in
theorem w_consts : constsHeld consts_1 about1 := Jvm.Lit.constsHeldB_iff.mp (by decide +kernel)
theorem w_applies : (headSpec (Jvm.Cond.code x code maxLocals ret :: tables_1) room_1).applies x e0.platform about1 = true :=
  (Spec.applies_iff w_frames).mpr ⟨w_running, w_runnable, w_alone, w_named, w_hears, w_ripe, w_room, w_tables⟩
theorem atStart : AtStart classFile x code maxLocals ret World_1 tables_1 room_1 Calls_1 rest_1 Pre_1 launch0 p0 e0 about1 theMethod args0 below0 :=
  ⟨lists_1, trivial, launch0.admits_env _ _ _, launch0.least_env, fairChoices_fair.cas, fairChoices_fair.clock, w_frames, w_args, w_heap, w_applies, ⟨w_consts, trivial⟩, w_rest, w_case⟩
end start1
theorem witness_1 : WitnessClaimed_1 := ⟨start1.p0, start1.e0, start1.about1, start1.theMethod, start1.args0, start1.below0, start1.atStart⟩
end Jvm.Pilot.@@N@@
