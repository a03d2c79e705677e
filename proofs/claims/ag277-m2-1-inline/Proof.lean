import JvmDerived
import JvmDerived.Pilot.@@N@@Statement
import JvmDerived.Pilot.@@N@@Code
set_option linter.unusedVariables false
set_option linter.unusedSimpArgs false
namespace Jvm.RoadKit
open Sem ClassFile Op Lib Jvm.Stand Jvm.Free Jvm.LawKit
section New
variable {p : Program} {l : Launch} {e : Env} {R : Room} {s : State} {m : MethodId} {args : Array Value} {below : List Frame} {meth : Method} {c : Code} {T : State} {locs : List Loc} {cells slots : Nat}
theorem retI (X : Stand p l e R s m args below meth c T locs cells slots) (hx : p.tables.exec = Jvm.exec) {pc : Nat} {Ls : Array Slot} {z : Int32} {rest : List Value} (hret : meth.sig.returnType = some .int) (hd : decode c.code pc = .ok (.ireturn, 1)) {fs : List Frame}
    (hl : ∀ (f : JFrame) (acts : List Action), f.method = m → f.locked = none → f.entered = [] → (doReturn e (T.setTop f) acts (some (.int z))).1 = T.setFrames fs) : Steps p.tables e below (T.setTop (mkF m pc Ls (.int z :: rest))) (T.setFrames fs) := by
  have hm' : T.vm.method? m = some meth := X.method'
  have hn : narrow .int (.int z) = .int z := rfl
  show Steps p.tables e below (T.setTop { method := m, pc := pc, locals := Ls, stack := _ :: rest, locked := none }) _
  jvm_step X.here [X.here.top, hx, hd, hm', hret, hn]
  first | (intro acts; rw [hl _ acts rfl rfl rfl]) | rw [hl _ _ rfl rfl rfl]
  exact Steps.refl _
/-- from here the invocation comes to an end of which R holds -/
def Goes (p : Program) (e : Env) (below : List Frame) (cur : State) (R : State → Outcome → Prop) : Prop := ∃ s₂ o, Steps p.tables e below cur s₂ ∧ s₂.status = .running ∧ Ended s₂ below o ∧ R s₂ o
theorem Goes.via {cur next : State} {R : State → Outcome → Prop} (k : ∀ t, Steps p.tables e below next t → Steps p.tables e below cur t) (h : Goes p e below next R) : Goes p e below cur R := by
  obtain ⟨s₂, o, h1, h2⟩ := h
  exact ⟨s₂, o, k _ h1, h2⟩
/-- the places written so far, as one unknown list -/
theorem ownPack (X : Stand p l e R s m args below meth c T locs cells slots) {n0 : Nat} (N : Fr n0 locs) : ∃ L, Stand p l e R s m args below meth c T L cells slots ∧ Fr n0 L := ⟨_, X, N⟩
end New
end Jvm.RoadKit
namespace Jvm.RoadKit
open Sem ClassFile Op Lib Jvm.Stand Jvm.Free Jvm.LawKit
section NewS
variable {p : Program} {l : Launch} {e : Env} {R : Room} {s : State} {m : MethodId} {args : Array Value} {below : List Frame} {meth : Method} {c : Code} {T : State} {locs : List Loc} {cells slots : Nat} {Z : State} {a0 : Array Value} {h : Heap}
/-- a callee that may intern, with a word on the tables ahead (I) and behind (in Q) -/
theorem ownBackS {y : MethodName} {bytes : ByteArray} {maxL : Nat} {ret : Option FieldType} {rm : Room} {len W : Nat} {as' : Array Value} {I : Vm → Prop} {Q : Option Value → Heap → Vm → List Loc → Prop}
    (hM : MetFree l y (head1 [Cond.code y bytes maxL ret] rm) (fun a U => a = as' ∧ Z.Warmed39 U.vm ∧ U.heap = h ∧ I U.vm) (fun _ _ _ _ _ => True) (fun _ U o U' => ∃ v L, o = .returned v ∧ Q v U'.heap U'.vm L ∧ ReturnedEndW U o U' L rm.cells rm.slots))
    (hZ : Z.Warmed39 s.vm) (hI : ∀ vm, s.WarmedH vm → I vm) (wc : (Cond.code y bytes maxL ret).before a0 Z = true) (wz : (Cond.initialized y.cls).before a0 Z = true) (hf : rm.frames + 1 ≤ R.frames) (hl : W + (maxL + 11) + rm.locals ≤ R.locals) :
    BackS l R p e below s args y len W (fun A a => a = as' ∧ A.U.heap = h ∧ A.cells + rm.cells ≤ R.cells ∧ A.slots + rm.slots ≤ R.slots)
      (fun A _ v B => ∃ L, Q v B.U.heap B.U.vm L ∧ B.locs = A.locs ++ L ∧ B.cells = A.cells + rm.cells ∧ B.slots = A.slots + rm.slots) :=
  BackS.of_freeW (bytes := bytes) (maxL := maxL) (ret := ret) (E := fun _ _ o t L k n => k = rm.cells ∧ n = rm.slots ∧ ∃ v, o = .returned v ∧ Q v t.heap t.vm L) hM hf hl
    (fun m meth c A a Y hp => have hU : Z.Warmed39 A.U.vm := wtrans hZ Y.warmed
      ⟨by show (Cond.and _ .tt).before a A.U = true; rw [Cond.before_and, mv hU wc]; rfl, mv hU wc, mv hU wz, hp.2.2.1, hp.2.2.2⟩)
    (fun m meth c A a g mk Y hp => ⟨hp.1, wtrans hZ Y.warmed, hp.2.1, hI _ Y.warmed⟩) (fun _ _ _ _ _ _ _ _ _ => trivial)
    (fun _ _ _ _ ⟨v, L, h1, h2, h3⟩ => ⟨L, _, _, h3, rfl, rfl, v, h1, h2⟩)
    (fun m meth c A a g mk v t L k n Y hp _ _ ⟨e1, e2, v', e3, e4⟩ => by cases e3; subst e1 e2; exact ⟨L, e4, rfl, rfl, rfl⟩)
theorem IB.warm {Ts : List String} (I : IB Z s.vm Ts) {vm : Vm} (hW : s.WarmedH vm) : IB Z vm Ts := by
  obtain ⟨more, h1, h2⟩ := I
  exact ⟨more, hW.interned_eq.trans h1, h2⟩
theorem Lit.any {s' : State} {vm : Vm} {own : String} {i : Nat} {a : Addr} (L : Lit (s.setVm vm) own i a) : Lit (s'.setVm vm) own i a := L
theorem Lit.warm {own : String} {i : Nat} {a : Addr} (L : Lit s own i a) {vm : Vm} (hW : s.WarmedH vm) : Lit (s.setVm vm) own i a := State.resolvedAt?_warmed39 (s := s) hW.wide L
end NewS
end Jvm.RoadKit
namespace Jvm.RoadKit
open Sem ClassFile Op Lib Jvm.Stand Jvm.Free Jvm.LawKit
section Sb
variable {s : State} {args : Array Value} {y : MethodName}
/-- a private method selects itself, where the sheet's word names a subclass -/
theorem ownSelP {K : String} (hsel : (Cond.selects K y y).before args s = true) (hp : (Cond.privateMethod y).before args s = true) (hinst : (Cond.instanceMethod y).before args s = true) (hy : y.cls ≠ "java/lang/invoke/MethodHandle" ∧ y.cls ≠ "java/lang/invoke/VarHandle") : (Cond.selects y.cls y y).before args s = true := by
  obtain ⟨c2, r2, m2, -, -, q3, -, k, hk, hni⟩ := Cond.selects_spec hsel
  exact selects_self_of_private (findClass_of_methodNamed q3) hk hni (Cond.privateMethod_at hp) hinst hy
/-- the lookup from a class that declares the method finds it there; that it is no interface another word of that class tells -/
theorem ownSameSelf {K : String} {z : MethodName} (w3 : (Cond.instanceMethod y).before args s = true) (hsel : (Cond.selects K z z).before args s = true) (hz : z.cls = y.cls) (hy : y.cls ≠ "java/lang/invoke/MethodHandle" ∧ y.cls ≠ "java/lang/invoke/VarHandle") : (Cond.sameMethod y.cls y.cls y.name y.desc).before args s = true := by
  obtain ⟨mk, methM, hnamed, hmethM, hstM, habM⟩ := Cond.instanceMethod_spec w3
  obtain ⟨c2, r2, m2, -, -, q3, -, k, hk, hni⟩ := Cond.selects_spec hsel
  have hf := State.methodFound?_of_named hnamed hy
  have hcn := findClass_of_methodNamed hnamed
  have hc2 := findClass_of_methodNamed q3
  rw [hz] at hc2
  have e : mk.cls = m2.cls := Option.some.inj (hcn.symm.trans hc2)
  have hp : s.vm.classes[mk.cls]? = some k := by rw [e]; exact hk
  simp [Cond.before, Cond.holds, Cond.value, hcn, hf, hnamed, hp, hni]
theorem ownMvN {Z : State} {a0 : Array Value} {own host : String} {index : Nat} (hZ : Z.Warmed39 s.vm) (w : (Cond.methodLinkNest own index y host).before a0 Z = true) : (Cond.methodLinkNest own index y host).before args s = true := (Cond.methodLinkNest_wide hZ w :)
theorem ownNotFace {K : String} {z : MethodName} (hsel : (Cond.selects K z z).before args s = true) (hz : z.cls = y.cls) : NotFace s y := fun r0 h0 => by
  obtain ⟨c2, r2, m2, -, -, q3, -, k, hk, hni⟩ := Cond.selects_spec hsel
  have h1 := findClass_of_methodNamed h0
  have h2 := findClass_of_methodNamed q3
  rw [hz] at h2
  have e : r0.cls = m2.cls := Option.some.inj (h1.symm.trans h2)
  exact ⟨k, by rw [e]; exact hk, hni⟩
theorem ownNin2 {a b c : Addr} (h1 : a ≠ b) (h2 : a ≠ c) : a ∉ [b, c] := fun q => by
  rcases List.mem_cons.mp q with q | q
  · exact h1 q
  · exact h2 (List.mem_singleton.mp q)
theorem ownAll2 {P : Addr → Prop} {b c : Addr} (h1 : P b) (h2 : P c) : ∀ x ∈ [b, c], P x := fun x q => by
  rcases List.mem_cons.mp q with q | q
  · exact q ▸ h1
  · exact (List.mem_singleton.mp q) ▸ h2
/-- arrays of different lengths are different -/
theorem ownNeLen {Z : State} {h : Heap} {a b : Addr} {k k' : ClassId} {ty ty' : FieldType} {n n' : Int32} {vs vs' : List Value} {d d' : Value} (F : Arv Z h a k ty n vs d) (G : Arv Z h b k' ty' n' vs' d') (hn : n.toNatClampNeg ≠ n'.toNatClampNeg) : a ≠ b := fun q => by
  subst q
  obtain ⟨c, A, -, S, -⟩ := F
  obtain ⟨c', A', -, S', -⟩ := G
  cases A.1.symm.trans A'.1
  exact hn (S.symm.trans S')
end Sb
end Jvm.RoadKit
namespace Jvm.Pilot.@@N@@
open Jvm Jvm.ClassFile Sem Op Lib Jvm.Free Jvm.Stand Jvm.LawKit Jvm.RoadKit Bundle Jvm.Pilot.@@N@@.Jvm.D
abbrev si (x : Int32) : Slot := .val (.int x)
abbrev sj (x : Int64) : Slot := .val (.long x)
abbrev sr (x : Addr) : Slot := .val (.ref x)
theorem Wd {Z : State} {a0 : Array Value} {d : Jvm.Cond} (hw : ∀ d ∈ tables_1, d.before a0 Z = true) (i : Nat) (h : tables_1[i]? = some d) : d.before a0 Z = true := hw _ (List.mem_of_getElem? h)
abbrev MF (l : Launch) (y : MethodName) (b : ByteArray) (k : Nat) (r : Option FieldType) (ws : List Jvm.Cond) (rm : Room) (A : Array Value) (Z : State) (h0 : Heap) (Q : Option Value → Heap → List Loc → Prop) : Prop := MetFree l y (head1 (Jvm.Cond.code y b k r :: ws) rm) (fun a U => a = A ∧ Z.Warmed39 U.vm ∧ U.heap = h0) (fun _ _ _ _ _ => True) (fun _ U o U' => ∃ v L, o = .returned v ∧ Q v U'.heap L ∧ FrameEnd U o U' L rm.cells rm.slots)
abbrev MFS (l : Launch) (y : MethodName) (b : ByteArray) (k : Nat) (r : Option FieldType) (ws : List Jvm.Cond) (rm : Room) (A : Array Value) (Z : State) (h0 : Heap) (I : Vm → Prop) (Q : Option Value → Heap → Vm → List Loc → Prop) : Prop := MetFree l y (head1 (Jvm.Cond.code y b k r :: ws) rm) (fun a U => a = A ∧ Z.Warmed39 U.vm ∧ U.heap = h0 ∧ I U.vm) (fun _ _ _ _ _ => True) (fun _ U o U' => ∃ v L, o = .returned v ∧ Q v U'.heap U'.vm L ∧ ReturnedEndW U o U' L rm.cells rm.slots)
def own_St (Z : State) (w0 : Int32) (rE rL eL : Addr) (kL : ClassId) : Prop := Sta Z Z.heap "java/lang/String" "COMPACT_STRINGS" "Z" (.int w0) ∧ ¬ w0 = (0 : Int32) ∧ Sta Z Z.heap "java/util/ImmutableCollections" "EMPTY" "Ljava/lang/Object;" (.ref rE) ∧ rE < Z.heap.size ∧ Sta Z Z.heap "java/util/ImmutableCollections" "EMPTY_LIST" "Ljava/util/ImmutableCollections$ListN;" (.ref rL) ∧ Exa Z Z.heap rL "java/util/ImmutableCollections$ListN" ∧ Fld Z Z.heap rL "java/util/ImmutableCollections$ListN" "elements" "[Ljava/lang/Object;" (.ref eL) ∧ Arv Z Z.heap eL kL (.object "java/lang/Object") (0 : Int32) [] .null
def own_b0 (p : Int32) : Int32 := nar .byte ((nar .char ((p &&& (255 : Int32)).toUInt32.toUInt16.toUInt32.toInt32)).toInt8.toInt32)
def own_b1 (p : Int32) : Int32 := nar .byte ((nar .char ((((p.toUInt32 >>> ((8 : Int32) &&& 31).toUInt32).toInt32) &&& (255 : Int32)).toUInt32.toUInt16.toUInt32.toInt32)).toInt8.toInt32)
theorem own_c255 (x : Int32) : ¬ ((255 : Int32) < nar .char ((x &&& (255 : Int32)).toUInt32.toUInt16.toUInt32.toInt32)) := by
  have m := c_mask x 255 8 (by decide) (by decide)
  have hp : ((2 ^ 8 : Nat) : Int) = 256 := by decide
  rw [hp] at m
  have c1 := c_i2c (x &&& (255 : Int32))
  have c2 := c_i2c ((x &&& (255 : Int32)).toUInt32.toUInt16.toUInt32.toInt32)
  rw [Int32.lt_iff_toInt_lt, show (255 : Int32).toInt = 255 from by decide]
  show ¬ 255 < ((x &&& (255 : Int32)).toUInt32.toUInt16.toUInt32.toInt32.toUInt32.toUInt16.toUInt32.toInt32).toInt
  omega
theorem own_wS {Z : State} {a0 : Array Value} (hw : ∀ d ∈ tables_1, d.before a0 Z = true) : ∀ a ∈ Bundle.stringAtoms, a.before a0 Z = true := by
  intro a ha
  simp only [Bundle.stringAtoms, Bundle.sN, List.mem_cons, List.not_mem_nil, or_false] at ha
  rcases ha with rfl | rfl | rfl | rfl | rfl | rfl | rfl
  · exact Wd hw 6 rfl
  · exact Wd hw 5 rfl
  · exact Wd hw 23 rfl
  · exact Wd hw 33 rfl
  · exact Wd hw 31 rfl
  · exact Wd hw 48 rfl
  · exact Wd hw 49 rfl
theorem own_len (x : Int32) : (x &&& (3 : Int32)) = 0 ∨ (x &&& (3 : Int32)) = 1 ∨ (x &&& (3 : Int32)) = 2 ∨ (x &&& (3 : Int32)) = 3 := by
  have a1 := c_mask x 3 2 (by decide) (by decide)
  have hp : ((2 ^ 2 : Nat) : Int) = 4 := by decide
  rw [hp] at a1
  simp only [← Int32.toInt_inj, a1, show (0 : Int32).toInt = 0 from by decide, show (1 : Int32).toInt = 1 from by decide, show (2 : Int32).toInt = 2 from by decide, show (3 : Int32).toInt = 3 from by decide]
  omega
theorem d6_0 : decode jdk_52_method_21_code 0 = .ok (.iconst 0, 1) := by decide +kernel
theorem d6_1 : decode jdk_52_method_21_code 1 = .ok (.istore 5, 2) := by decide +kernel
theorem d6_3 : decode jdk_52_method_21_code 3 = .ok (.iload 5, 2) := by decide +kernel
theorem d6_5 : decode jdk_52_method_21_code 5 = .ok (.iload 4, 2) := by decide +kernel
theorem d6_7 : decode jdk_52_method_21_code 7 = .ok (.if_icmp .ge 37, 3) := by decide +kernel
theorem d6_10 : decode jdk_52_method_21_code 10 = .ok (.aload_n 0, 1) := by decide +kernel
theorem d6_11 : decode jdk_52_method_21_code 11 = .ok (.iload_n 1, 1) := by decide +kernel
theorem d6_12 : decode jdk_52_method_21_code 12 = .ok (.caload, 1) := by decide +kernel
theorem d6_13 : decode jdk_52_method_21_code 13 = .ok (.istore 6, 2) := by decide +kernel
theorem d6_15 : decode jdk_52_method_21_code 15 = .ok (.iload 6, 2) := by decide +kernel
theorem d6_17 : decode jdk_52_method_21_code 17 = .ok (.sipush 255, 3) := by decide +kernel
theorem d6_20 : decode jdk_52_method_21_code 20 = .ok (.if_icmp .le 6, 3) := by decide +kernel
theorem d6_26 : decode jdk_52_method_21_code 26 = .ok (.aload_n 2, 1) := by decide +kernel
theorem d6_27 : decode jdk_52_method_21_code 27 = .ok (.iload_n 3, 1) := by decide +kernel
theorem d6_28 : decode jdk_52_method_21_code 28 = .ok (.iload 6, 2) := by decide +kernel
theorem d6_30 : decode jdk_52_method_21_code 30 = .ok (.i2b, 1) := by decide +kernel
theorem d6_31 : decode jdk_52_method_21_code 31 = .ok (.bastore, 1) := by decide +kernel
theorem d6_32 : decode jdk_52_method_21_code 32 = .ok (.iinc 1 1, 3) := by decide +kernel
theorem d6_35 : decode jdk_52_method_21_code 35 = .ok (.iinc 3 1, 3) := by decide +kernel
theorem d6_38 : decode jdk_52_method_21_code 38 = .ok (.iinc 5 1, 3) := by decide +kernel
theorem d6_41 : decode jdk_52_method_21_code 41 = .ok (.goto (-38), 3) := by decide +kernel
theorem d6_44 : decode jdk_52_method_21_code 44 = .ok (.iload 4, 2) := by decide +kernel
theorem d6_46 : decode jdk_52_method_21_code 46 = .ok (.ireturn, 1) := by decide +kernel
theorem pn_0 : plainName "java/lang/StringUTF16" = true := by first | (simp [plainName, overriddenIn]; done) | decide +kernel
theorem ef_6_2 (m : MethodId) (x0 : Addr) (x2 : Addr) : entryFrame m #[(.ref x0), (.int (0 : Int32)), (.ref x2), (.int (0 : Int32)), (.int (2 : Int32))] 7 = mkF m 0 #[.val (.ref x0), .val (.int (0 : Int32)), .val (.ref x2), .val (.int (0 : Int32)), .val (.int (2 : Int32)), .unset, .unset] [] := by first | (simp [entryFrame, mkF, argsToLocals, Value.category]; done) | rfl
def Q6_2 (Z : State) (a2 : Addr) (k2 : ClassId) (c0 c1 : Int32) (h0 : Heap) (n0 : Nat) (v : Option Value) (h : Heap) (L : List Loc) : Prop := v = some (.int (2 : Int32)) ∧ Fr n0 L ∧ Keep h0 h [a2] ∧ Arv Z h a2 k2 .byte (2 : Int32) [(.int (nar .byte (c0.toInt8.toInt32))), (.int (nar .byte (c1.toInt8.toInt32)))] (.int (0 : Int32))
set_option maxRecDepth 65536 in
set_option maxHeartbeats 40000000 in
theorem rm6_2 (l : Launch) (Z : State) (a0 : Array Value) (hw : ∀ d ∈ tables_1, d.before a0 Z = true) (ws : List Jvm.Cond) (a1 : Addr) (a2 : Addr) (k1 k2 : ClassId) (c0 c1 : Int32) (h0 : Heap) (n0 : Nat) (Z0 : n0 ≤ h0.size) (V1 : Arv Z h0 a1 k1 .char (2 : Int32) [(.int c0), (.int c1)] (.int (0 : Int32))) (V2 : Arv Z h0 a2 k2 .byte (2 : Int32) [(.int (0 : Int32)), (.int (0 : Int32))] (.int (0 : Int32))) (g2 : n0 ≤ a2) (lt12 : a1 < a2) (hc0 : ¬ ((255 : Int32) < c0)) (hc1 : ¬ ((255 : Int32) < c1)) :
    MF l (⟨"java/lang/StringUTF16", "compress", "([CI[BII)I"⟩ : MethodName) jdk_52_method_21_code 7 (some .int) ws ({ frames := 0, cells := 0, slots := 0, locals := 0 } : Room) #[(.ref a1), (.int (0 : Int32)), (.ref a2), (.int (0 : Int32)), (.int (2 : Int32))] Z h0 (Q6_2 Z a2 k2 c0 c1 h0 n0) := by
  refine MetFree.of_bodySF (plainFor_of_name pn_0) hisR ?_
  intro p e s m args below meth c s₁ Bd hml0 hP hK
  obtain ⟨rfl, hZ, hh⟩ := hP
  have hx := Bd.exec
  have hby := Bd.bytes
  have hml : c.maxLocals = 7 := hml0
  have hown : s.vm.findClass "java/lang/StringUTF16" = some m.cls := findClass_of_methodNamed Bd.named
  have hnm := (name_of_methodNamed Bd.named Bd.method).1
  have X0 : Stand p l e ({ frames := 0, cells := 0, slots := 0, locals := 0 } : Room) s m #[(.ref a1), (.int (0 : Int32)), (.ref a2), (.int (0 : Int32)), (.int (2 : Int32))] below meth c s₁ [] 0 0 := Stand.of_body Bd
  have e0 : s₁.heap = h0 := by rw [← hh, Bd.state]; rfl
  have N0 := Fr.nil n0
  refine Goes.via (next := s₁.setTop (mkF m 0 #[.val (.ref a1), .val (.int (0 : Int32)), .val (.ref a2), .val (.int (0 : Int32)), .val (.int (2 : Int32)), .unset, .unset] [])) (fun t k => castTop (ef_6_2 m a1 a2) k) ?_
  refine Goes.via (next := s₁.setTop (mkF m 11 #[sr a1, si (0 : Int32), sr a2, si (0 : Int32), si (2 : Int32), si (0 : Int32), .unset] [(.ref a1)])) (fun t k => XS.iconst X0.here hx rfl (hb hby d6_0) (XS.istore X0.here hx rfl (hb hby d6_1) rfl (l' := #[sr a1, si (0 : Int32), sr a2, si (0 : Int32), si (2 : Int32), si (0 : Int32), .unset]) rfl (XS.iload X0.here hx rfl (hb hby d6_3) rfl (XS.iload X0.here hx rfl (hb hby d6_5) rfl (XS.icmpNo X0.here hx rfl (hb hby d6_7) rfl (tlt (show (0 : Int32) < (2 : Int32) from (by decide))).2.1 (XS.aloadN X0.here hx rfl (hb hby d6_10) rfl rfl k)))))) ?_
  refine Goes.via (next := s₁.setTop (mkF m 12 #[sr a1, si (0 : Int32), sr a2, si (0 : Int32), si (2 : Int32), si (0 : Int32), .unset] [(.int (0 : Int32)), (.ref a1)])) (fun t k => XS.iloadN X0.here hx rfl (hb hby d6_11) rfl k) ?_
  obtain ⟨cl1, Ar1, qa1, Sa1, Na1, Ha1, Ga1⟩ := id V1
  have hin1 : ¬ ((0 : Int32) < 0 ∨ cl1.slots.size ≤ ((0 : Int32)).toNatClampNeg) := inb_of Sa1 ⟨by decide, by decide⟩
  have hat1 : cl1.slots[((0 : Int32)).toNatClampNeg]? = some (.int c0) := Ha1.at hin1 rfl
  refine Goes.via (next := s₁.setTop (mkF m 13 #[sr a1, si (0 : Int32), sr a2, si (0 : Int32), si (2 : Int32), si (0 : Int32), .unset] [(.int c0)])) (fun t k => X0.caload hx (j := (0 : Int32)) (v := (.int c0)) (by rw [e0]; exact Ar1.1) (State.isArrayOf_alike hZ.alike Ar1.2.1) Ar1.2.2 hin1 hat1 (g := (mkF m 12 #[sr a1, si (0 : Int32), sr a2, si (0 : Int32), si (2 : Int32), si (0 : Int32), .unset] [(.int (0 : Int32)), (.ref a1)])) rfl rfl (hb hby d6_12) _ k) ?_
  refine Goes.via (next := s₁.setTop (mkF m 20 #[sr a1, si (0 : Int32), sr a2, si (0 : Int32), si (2 : Int32), si (0 : Int32), si c0] [(.int (255 : Int32)), (.int c0)])) (fun t k => XS.istore X0.here hx rfl (hb hby d6_13) rfl (l' := #[sr a1, si (0 : Int32), sr a2, si (0 : Int32), si (2 : Int32), si (0 : Int32), si c0]) rfl (XS.iload X0.here hx rfl (hb hby d6_15) rfl (XS.sipush X0.here hx rfl (hb hby d6_17) k))) ?_
  refine Goes.via (next := s₁.setTop (mkF m 26 #[sr a1, si (0 : Int32), sr a2, si (0 : Int32), si (2 : Int32), si (0 : Int32), si c0] [])) (fun t k => XS.icmpYes X0.here hx rfl (pc0 := 20) (pc' := 26) rfl (hb hby d6_20) rfl (flt hc0).2.2.2 (by decide) (by decide) k) ?_
  refine Goes.via (next := s₁.setTop (mkF m 31 #[sr a1, si (0 : Int32), sr a2, si (0 : Int32), si (2 : Int32), si (0 : Int32), si c0] [(.int (c0.toInt8.toInt32)), (.int (0 : Int32)), (.ref a2)])) (fun t k => XS.aloadN X0.here hx rfl (hb hby d6_26) rfl rfl (XS.iloadN X0.here hx rfl (hb hby d6_27) rfl (XS.iload X0.here hx rfl (hb hby d6_28) rfl (XS.i2b X0.here hx rfl (hb hby d6_30) rfl k)))) ?_
  obtain ⟨cl2, Ar2, qa2, Sa2, Na2, Ha2, Ga2⟩ := V2
  have hin2 : ¬ ((0 : Int32) < 0 ∨ cl2.slots.size ≤ ((0 : Int32)).toNatClampNeg) := inb_of Sa2 ⟨by decide, by decide⟩
  obtain ⟨T2, h2, X2, e2, W2, st2⟩ := stB X0 hx hZ e0 Ar2 (j := (0 : Int32)) hin2 (g := (mkF m 31 #[sr a1, si (0 : Int32), sr a2, si (0 : Int32), si (2 : Int32), si (0 : Int32), si c0] [(.int (c0.toInt8.toInt32)), (.int (0 : Int32)), (.ref a2)])) rfl rfl (hb hby d6_31)
  have V2 : Arv Z h2 a2 k2 .byte (2 : Int32) [(.int (nar .byte (c0.toInt8.toInt32))), (.int (0 : Int32))] (.int (0 : Int32)) := Arv.set Ar2 qa2 Sa2 Na2 Ha2 Ga2 (fits_nar_byte _) W2 0 rfl (Nat.le_of_ble_eq_true rfl)
  have F2_13 := V1.other W2 (Nat.ne_of_lt lt12)
  have K2 : Keep h0 h2 [a2] := (Keep.refl h0 [a2]).wr W2 (Or.inl (List.mem_of_getElem? (i := 0) rfl))
  have Z2 : n0 ≤ h2.size := Nat.le_trans Z0 (Keep.of_wr W2).1
  have N2 := Fr.snoc X2 N0 g2
  refine Goes.via (next := T2.setTop (mkF m 32 #[sr a1, si (0 : Int32), sr a2, si (0 : Int32), si (2 : Int32), si (0 : Int32), si c0] [])) st2 ?_
  refine Goes.via (next := T2.setTop (mkF m 7 #[sr a1, si (1 : Int32), sr a2, si (1 : Int32), si (2 : Int32), si (1 : Int32), si c0] [(.int (2 : Int32)), (.int (1 : Int32))])) (fun t k => XS.iinc X2.here hx rfl (hb hby d6_32) rfl (l' := #[sr a1, si (1 : Int32), sr a2, si (0 : Int32), si (2 : Int32), si (0 : Int32), si c0]) rfl (XS.iinc X2.here hx rfl (hb hby d6_35) rfl (l' := #[sr a1, si (1 : Int32), sr a2, si (1 : Int32), si (2 : Int32), si (0 : Int32), si c0]) rfl (XS.iinc X2.here hx rfl (hb hby d6_38) rfl (l' := #[sr a1, si (1 : Int32), sr a2, si (1 : Int32), si (2 : Int32), si (1 : Int32), si c0]) rfl (XS.goto X2.here hx rfl (pc0 := 41) (pc' := 3) rfl (hb hby d6_41) (by decide) (by decide) (XS.iload X2.here hx rfl (hb hby d6_3) rfl (XS.iload X2.here hx rfl (hb hby d6_5) rfl k)))))) ?_
  refine Goes.via (next := T2.setTop (mkF m 10 #[sr a1, si (1 : Int32), sr a2, si (1 : Int32), si (2 : Int32), si (1 : Int32), si c0] [])) (fun t k => XS.icmpNo X2.here hx rfl (hb hby d6_7) rfl (tlt (show (1 : Int32) < (2 : Int32) from (by decide))).2.1 k) ?_
  refine Goes.via (next := T2.setTop (mkF m 12 #[sr a1, si (1 : Int32), sr a2, si (1 : Int32), si (2 : Int32), si (1 : Int32), si c0] [(.int (1 : Int32)), (.ref a1)])) (fun t k => XS.aloadN X2.here hx rfl (hb hby d6_10) rfl rfl (XS.iloadN X2.here hx rfl (hb hby d6_11) rfl k)) ?_
  obtain ⟨cl3, Ar3, qa3, Sa3, Na3, Ha3, Ga3⟩ := id F2_13
  have hin3 : ¬ ((1 : Int32) < 0 ∨ cl3.slots.size ≤ ((1 : Int32)).toNatClampNeg) := inb_of Sa3 ⟨by decide, by decide⟩
  have hat3 : cl3.slots[((1 : Int32)).toNatClampNeg]? = some (.int c1) := Ha3.at hin3 rfl
  refine Goes.via (next := T2.setTop (mkF m 13 #[sr a1, si (1 : Int32), sr a2, si (1 : Int32), si (2 : Int32), si (1 : Int32), si c0] [(.int c1)])) (fun t k => X2.caload hx (j := (1 : Int32)) (v := (.int c1)) (by rw [e2]; exact Ar3.1) (State.isArrayOf_alike hZ.alike Ar3.2.1) Ar3.2.2 hin3 hat3 (g := (mkF m 12 #[sr a1, si (1 : Int32), sr a2, si (1 : Int32), si (2 : Int32), si (1 : Int32), si c0] [(.int (1 : Int32)), (.ref a1)])) rfl rfl (hb hby d6_12) _ k) ?_
  refine Goes.via (next := T2.setTop (mkF m 20 #[sr a1, si (1 : Int32), sr a2, si (1 : Int32), si (2 : Int32), si (1 : Int32), si c1] [(.int (255 : Int32)), (.int c1)])) (fun t k => XS.istore X2.here hx rfl (hb hby d6_13) rfl (l' := #[sr a1, si (1 : Int32), sr a2, si (1 : Int32), si (2 : Int32), si (1 : Int32), si c1]) rfl (XS.iload X2.here hx rfl (hb hby d6_15) rfl (XS.sipush X2.here hx rfl (hb hby d6_17) k))) ?_
  refine Goes.via (next := T2.setTop (mkF m 26 #[sr a1, si (1 : Int32), sr a2, si (1 : Int32), si (2 : Int32), si (1 : Int32), si c1] [])) (fun t k => XS.icmpYes X2.here hx rfl (pc0 := 20) (pc' := 26) rfl (hb hby d6_20) rfl (flt hc1).2.2.2 (by decide) (by decide) k) ?_
  refine Goes.via (next := T2.setTop (mkF m 31 #[sr a1, si (1 : Int32), sr a2, si (1 : Int32), si (2 : Int32), si (1 : Int32), si c1] [(.int (c1.toInt8.toInt32)), (.int (1 : Int32)), (.ref a2)])) (fun t k => XS.aloadN X2.here hx rfl (hb hby d6_26) rfl rfl (XS.iloadN X2.here hx rfl (hb hby d6_27) rfl (XS.iload X2.here hx rfl (hb hby d6_28) rfl (XS.i2b X2.here hx rfl (hb hby d6_30) rfl k)))) ?_
  obtain ⟨cl4, Ar4, qa4, Sa4, Na4, Ha4, Ga4⟩ := V2
  have hin4 : ¬ ((1 : Int32) < 0 ∨ cl4.slots.size ≤ ((1 : Int32)).toNatClampNeg) := inb_of Sa4 ⟨by decide, by decide⟩
  obtain ⟨T4, h4, X4, e4, W4, st4⟩ := stB X2 hx hZ e2 Ar4 (j := (1 : Int32)) hin4 (g := (mkF m 31 #[sr a1, si (1 : Int32), sr a2, si (1 : Int32), si (2 : Int32), si (1 : Int32), si c1] [(.int (c1.toInt8.toInt32)), (.int (1 : Int32)), (.ref a2)])) rfl rfl (hb hby d6_31)
  have V4 : Arv Z h4 a2 k2 .byte (2 : Int32) [(.int (nar .byte (c0.toInt8.toInt32))), (.int (nar .byte (c1.toInt8.toInt32)))] (.int (0 : Int32)) := Arv.set Ar4 qa4 Sa4 Na4 Ha4 Ga4 (fits_nar_byte _) W4 1 rfl (Nat.le_of_ble_eq_true rfl)
  have F4_32 := F2_13.other W4 (Nat.ne_of_lt lt12)
  have K4 : Keep h0 h4 [a2] := K2.wr W4 (Or.inl (List.mem_of_getElem? (i := 0) rfl))
  have Z4 : n0 ≤ h4.size := Nat.le_trans Z2 (Keep.of_wr W4).1
  have N4 := Fr.snoc X4 N2 g2
  refine Goes.via (next := T4.setTop (mkF m 32 #[sr a1, si (1 : Int32), sr a2, si (1 : Int32), si (2 : Int32), si (1 : Int32), si c1] [])) st4 ?_
  refine Goes.via (next := T4.setTop (mkF m 7 #[sr a1, si (2 : Int32), sr a2, si (2 : Int32), si (2 : Int32), si (2 : Int32), si c1] [(.int (2 : Int32)), (.int (2 : Int32))])) (fun t k => XS.iinc X4.here hx rfl (hb hby d6_32) rfl (l' := #[sr a1, si (2 : Int32), sr a2, si (1 : Int32), si (2 : Int32), si (1 : Int32), si c1]) rfl (XS.iinc X4.here hx rfl (hb hby d6_35) rfl (l' := #[sr a1, si (2 : Int32), sr a2, si (2 : Int32), si (2 : Int32), si (1 : Int32), si c1]) rfl (XS.iinc X4.here hx rfl (hb hby d6_38) rfl (l' := #[sr a1, si (2 : Int32), sr a2, si (2 : Int32), si (2 : Int32), si (2 : Int32), si c1]) rfl (XS.goto X4.here hx rfl (pc0 := 41) (pc' := 3) rfl (hb hby d6_41) (by decide) (by decide) (XS.iload X4.here hx rfl (hb hby d6_3) rfl (XS.iload X4.here hx rfl (hb hby d6_5) rfl k)))))) ?_
  refine Goes.via (next := T4.setTop (mkF m 44 #[sr a1, si (2 : Int32), sr a2, si (2 : Int32), si (2 : Int32), si (2 : Int32), si c1] [])) (fun t k => XS.icmpYes X4.here hx rfl (pc0 := 7) (pc' := 44) rfl (hb hby d6_7) rfl (flt (show ¬ ((2 : Int32) < (2 : Int32)) from (by decide))).2.1 (by decide) (by decide) k) ?_
  refine Goes.via (next := T4.setTop (mkF m 46 #[sr a1, si (2 : Int32), sr a2, si (2 : Int32), si (2 : Int32), si (2 : Int32), si c1] [(.int (2 : Int32))])) (fun t k => XS.iload X4.here hx rfl (hb hby d6_44) rfl k) ?_
  obtain ⟨fs, hr, hrun, hended, hW, hsame⟩ := X4.leave (v := some (.int (2 : Int32))) (fun h => by rw [Bd.returns] at h; cases h)
  refine ⟨_, _, ?_, hrun, hended, _, _, rfl, ?_, ⟨_, rfl⟩, hW, hsame.mono (by decide) (by decide)⟩
  · exact retI X4 hx Bd.returns (hb hby d6_46) hr
  · show Q6_2 Z a2 k2 c0 c1 h0 n0 _ T4.heap _
    rw [e4]
    exact ⟨rfl, N4, K4, V4⟩
theorem d5_0 : decode jdk_52_method_16_code 0 = .ok (.iload_n 2, 1) := by decide +kernel
theorem d5_1 : decode jdk_52_method_16_code 1 = .ok (.newarray .byte, 2) := by decide +kernel
theorem d5_3 : decode jdk_52_method_16_code 3 = .ok (.astore_n 3, 1) := by decide +kernel
theorem d5_4 : decode jdk_52_method_16_code 4 = .ok (.aload_n 0, 1) := by decide +kernel
theorem d5_5 : decode jdk_52_method_16_code 5 = .ok (.iload_n 1, 1) := by decide +kernel
theorem d5_6 : decode jdk_52_method_16_code 6 = .ok (.aload_n 3, 1) := by decide +kernel
theorem d5_7 : decode jdk_52_method_16_code 7 = .ok (.iconst 0, 1) := by decide +kernel
theorem d5_8 : decode jdk_52_method_16_code 8 = .ok (.iload_n 2, 1) := by decide +kernel
theorem d5_9 : decode jdk_52_method_16_code 9 = .ok (.invokestatic 115, 3) := by decide +kernel
theorem d5_12 : decode jdk_52_method_16_code 12 = .ok (.istore 4, 2) := by decide +kernel
theorem d5_14 : decode jdk_52_method_16_code 14 = .ok (.iload 4, 2) := by decide +kernel
theorem d5_16 : decode jdk_52_method_16_code 16 = .ok (.iload_n 2, 1) := by decide +kernel
theorem d5_17 : decode jdk_52_method_16_code 17 = .ok (.if_icmp .eq 40, 3) := by decide +kernel
theorem d5_57 : decode jdk_52_method_16_code 57 = .ok (.aload_n 3, 1) := by decide +kernel
theorem d5_58 : decode jdk_52_method_16_code 58 = .ok (.areturn, 1) := by decide +kernel
theorem pd_0 : parseMethodDescriptor "([CI[BII)I" = some ⟨[(.array .char), .int, (.array .byte), .int, .int], some .int⟩ := by decide +kernel
theorem ef_5_2 (m : MethodId) (x0 : Addr) : entryFrame m #[(.ref x0), (.int (0 : Int32)), (.int (2 : Int32))] 6 = mkF m 0 #[.val (.ref x0), .val (.int (0 : Int32)), .val (.int (2 : Int32)), .unset, .unset, .unset] [] := by first | (simp [entryFrame, mkF, argsToLocals, Value.category]; done) | rfl
def Q5_2 (Z : State) (c0 c1 : Int32) (h0 : Heap) (n0 : Nat) (v : Option Value) (h : Heap) (L : List Loc) : Prop := ∃ (t : Addr) (k : ClassId), v = some (.ref t) ∧ Fr n0 L ∧ n0 ≤ t ∧ h0.size ≤ t ∧ Keep h0 h [] ∧ Arv Z h t k .byte (2 : Int32) [(.int (nar .byte (c0.toInt8.toInt32))), (.int (nar .byte (c1.toInt8.toInt32)))] (.int (0 : Int32))
set_option maxRecDepth 65536 in
set_option maxHeartbeats 40000000 in
theorem rm5_2 (l : Launch) (Z : State) (a0 : Array Value) (hw : ∀ d ∈ tables_1, d.before a0 Z = true) (ws : List Jvm.Cond) (a1 : Addr) (k1 : ClassId) (c0 c1 : Int32) (h0 : Heap) (n0 : Nat) (Z0 : n0 ≤ h0.size) (V1 : Arv Z h0 a1 k1 .char (2 : Int32) [(.int c0), (.int c1)] (.int (0 : Int32))) (hc0 : ¬ ((255 : Int32) < c0)) (hc1 : ¬ ((255 : Int32) < c1)) :
    MF l (⟨"java/lang/StringUTF16", "compress", "([CII)[B"⟩ : MethodName) jdk_52_method_16_code 6 (some (.array .byte)) ws ({ frames := 1, cells := 1, slots := 2, locals := 18 } : Room) #[(.ref a1), (.int (0 : Int32)), (.int (2 : Int32))] Z h0 (Q5_2 Z c0 c1 h0 n0) := by
  refine MetFree.of_bodySF (plainFor_of_name pn_0) hisR ?_
  intro p e s m args below meth c s₁ Bd hml0 hP hK
  obtain ⟨rfl, hZ, hh⟩ := hP
  have hx := Bd.exec
  have hby := Bd.bytes
  have hml : c.maxLocals = 6 := hml0
  have hown : s.vm.findClass "java/lang/StringUTF16" = some m.cls := findClass_of_methodNamed Bd.named
  have hnm := (name_of_methodNamed Bd.named Bd.method).1
  have X0 : Stand p l e ({ frames := 1, cells := 1, slots := 2, locals := 18 } : Room) s m #[(.ref a1), (.int (0 : Int32)), (.int (2 : Int32))] below meth c s₁ [] 0 0 := Stand.of_body Bd
  have e0 : s₁.heap = h0 := by rw [← hh, Bd.state]; rfl
  have N0 := Fr.nil n0
  refine Goes.via (next := s₁.setTop (mkF m 0 #[.val (.ref a1), .val (.int (0 : Int32)), .val (.int (2 : Int32)), .unset, .unset, .unset] [])) (fun t k => castTop (ef_5_2 m a1) k) ?_
  refine Goes.via (next := s₁.setTop (mkF m 1 #[sr a1, si (0 : Int32), si (2 : Int32), .unset, .unset, .unset] [(.int (2 : Int32))])) (fun t k => XS.iloadN X0.here hx rfl (hb hby d5_0) rfl k) ?_
  obtain ⟨T1, h1, ka1, X1, e1, E1, A1, st1⟩ := newP X0 hx hZ (Wd hw 23 rfl) e0 (g := (mkF m 1 #[sr a1, si (0 : Int32), si (2 : Int32), .unset, .unset, .unset] [(.int (2 : Int32))])) rfl (hb hby d5_1) rfl (by decide) (cap := 2) (by decide) (by decide) (by decide) (by decide)
  obtain ⟨b1, g1⟩ : ∃ z, z = h0.size := ⟨_, rfl⟩
  rw [← g1] at A1 st1
  have lt_a1_b1 : a1 < b1 := Nat.lt_of_lt_of_le V1.lt (Nat.le_of_eq g1.symm)
  have ge_b1 : n0 ≤ b1 := Nat.le_trans Z0 (Nat.le_of_eq g1.symm)
  have sz_b1 : h0.size ≤ b1 := Nat.le_trans (Keep.refl h0 []).1 (Nat.le_of_eq g1.symm)
  have F1_7 := V1.ext E1
  have K1 : Keep h0 h1 [] := (Keep.refl h0 []).ext E1
  have Z1 : n0 ≤ h1.size := Nat.le_trans Z0 E1.1
  have V1 : Arv Z h1 b1 ka1 .byte (2 : Int32) [(.int (0 : Int32)), (.int (0 : Int32))] (.int (0 : Int32)) := (Arv.new A1 (by decide)).pad (pad_rep [] (.int (0 : Int32)) 2)
  refine Goes.via (next := T1.setTop (mkF m 3 #[sr a1, si (0 : Int32), si (2 : Int32), .unset, .unset, .unset] [(.ref b1)])) st1 ?_
  refine Goes.via (next := T1.setTop (mkF m 9 #[sr a1, si (0 : Int32), si (2 : Int32), sr b1, .unset, .unset] [(.int (2 : Int32)), (.int (0 : Int32)), (.ref b1), (.int (0 : Int32)), (.ref a1)])) (fun t k => XS.astoreN X1.here hx rfl (hb hby d5_3) rfl rfl (l' := #[sr a1, si (0 : Int32), si (2 : Int32), sr b1, .unset, .unset]) rfl (XS.aloadN X1.here hx rfl (hb hby d5_4) rfl rfl (XS.iloadN X1.here hx rfl (hb hby d5_5) rfl (XS.aloadN X1.here hx rfl (hb hby d5_6) rfl rfl (XS.iconst X1.here hx rfl (hb hby d5_7) (XS.iloadN X1.here hx rfl (hb hby d5_8) rfl k)))))) ?_
  obtain ⟨_, _, ⟨T2, L2, k2, n2⟩, -, X2, ⟨Lc2, hQ2, l2, y2, z2⟩, st2⟩ := Jvm.LawKit.callS X1 hx (y := (⟨"java/lang/StringUTF16", "compress", "([CI[BII)I"⟩ : MethodName)) hown (mvT hZ (Wd hw 24 rfl)) (mvT hZ (Wd hw 25 rfl)) (mvT hZ (Wd hw 21 rfl)) (mvT hZ (Wd hw 26 rfl)) (by decide) (backOf (W := 0) (rm6_2 l Z a0 hw [] a1 b1 k1 ka1 c0 c1 h1 n0 Z1 F1_7 V1 ge_b1 lt_a1_b1 hc0 hc1) hZ (Wd hw 26 rfl) (Wd hw 21 rfl) (by decide) (by decide)) (g := (mkF m 9 #[sr a1, si (0 : Int32), si (2 : Int32), sr b1, .unset, .unset] [(.int (2 : Int32)), (.int (0 : Int32)), (.ref b1), (.int (0 : Int32)), (.ref a1)])) rfl (by rw [hml]; rfl) (argsL := [(.ref a1), (.int (0 : Int32)), (.ref b1), (.int (0 : Int32)), (.int (2 : Int32))]) (rest := []) (lenOf pd_0 rfl) rfl (by show 2 * 0 + _ ≤ _; exact Nat.le_of_eq rfl) (hb hby d5_9) (fun _ _ => ⟨rfl, e1, (by decide : 1 + 0 ≤ _), (by decide : 2 + 0 ≤ _)⟩)
  dsimp only [Pt.U, Pt.locs, Pt.cells, Pt.slots] at X2 l2 y2 z2 st2 hQ2
  subst l2 y2 z2
  obtain ⟨rfl, N2q, Kc2, Vc2⟩ := hQ2
  have F2_17 := F1_7.keep Kc2 (fun q => (Nat.ne_of_lt lt_a1_b1) (List.mem_singleton.mp q))
  have K2 : Keep h0 T2.heap [] := K1.trans Kc2 (fun x hx => by cases List.mem_singleton.mp hx; exact Or.inr sz_b1)
  have Z2 : n0 ≤ T2.heap.size := Nat.le_trans Z1 Kc2.1
  have N2 := Fr.app N0 N2q
  refine Goes.via (next := T2.setTop (mkF m 12 #[sr a1, si (0 : Int32), si (2 : Int32), sr b1, .unset, .unset] [(.int (2 : Int32))])) st2 ?_
  refine Goes.via (next := T2.setTop (mkF m 58 #[sr a1, si (0 : Int32), si (2 : Int32), sr b1, si (2 : Int32), .unset] [(.ref b1)])) (fun t k => XS.istore X2.here hx rfl (hb hby d5_12) rfl (l' := #[sr a1, si (0 : Int32), si (2 : Int32), sr b1, si (2 : Int32), .unset]) rfl (XS.iload X2.here hx rfl (hb hby d5_14) rfl (XS.iloadN X2.here hx rfl (hb hby d5_16) rfl (XS.icmpYes X2.here hx rfl (pc0 := 17) (pc' := 57) rfl (hb hby d5_17) rfl (teq (show (2 : Int32) = (2 : Int32) from rfl)).1 (by decide) (by decide) (XS.aloadN X2.here hx rfl (hb hby d5_57) rfl rfl k))))) ?_
  obtain ⟨fs, hr, hrun, hended, hW, hsame⟩ := X2.leave (v := some (.ref b1)) (fun h => by rw [Bd.returns] at h; cases h)
  refine ⟨_, _, ?_, hrun, hended, _, _, rfl, ?_, ⟨_, rfl⟩, hW, hsame.mono (by decide) (by decide)⟩
  · exact retOut X2 hx (t := (.array .byte)) Bd.returns rfl (Or.inr (Or.inr (Or.inr (Or.inr ⟨rfl, rfl, rfl⟩)))) (hb hby d5_58) hr
  · exact ⟨b1, _, rfl, N2, ge_b1, sz_b1, K2, Vc2⟩
theorem d7_0 : decode jdk_52_method_15_code 0 = .ok (.iload_n 1, 1) := by decide +kernel
theorem d7_1 : decode jdk_52_method_15_code 1 = .ok (.aload_n 0, 1) := by decide +kernel
theorem d7_2 : decode jdk_52_method_15_code 2 = .ok (.arraylength, 1) := by decide +kernel
theorem d7_3 : decode jdk_52_method_15_code 3 = .ok (.isub, 1) := by decide +kernel
theorem d7_4 : decode jdk_52_method_15_code 4 = .ok (.bipush 31, 2) := by decide +kernel
theorem d7_6 : decode jdk_52_method_15_code 6 = .ok (.iushr, 1) := by decide +kernel
theorem d7_7 : decode jdk_52_method_15_code 7 = .ok (.i2b, 1) := by decide +kernel
theorem d7_8 : decode jdk_52_method_15_code 8 = .ok (.ireturn, 1) := by decide +kernel
theorem ef_7_2 (m : MethodId) (x0 : Addr) : entryFrame m #[(.ref x0), (.int (2 : Int32))] 2 = mkF m 0 #[.val (.ref x0), .val (.int (2 : Int32))] [] := by first | (simp [entryFrame, mkF, argsToLocals, Value.category]; done) | rfl
def Q7_2 (Z : State) (h0 : Heap) (n0 : Nat) (v : Option Value) (h : Heap) (L : List Loc) : Prop := v = some (.int (0 : Int32)) ∧ Fr n0 L ∧ h = h0
set_option maxRecDepth 65536 in
set_option maxHeartbeats 40000000 in
theorem rm7_2 (l : Launch) (Z : State) (a0 : Array Value) (hw : ∀ d ∈ tables_1, d.before a0 Z = true) (ws : List Jvm.Cond) (a1 : Addr) (k1 : ClassId) (vs : List Value) (h0 : Heap) (n0 : Nat) (Z0 : n0 ≤ h0.size) (V1 : Arv Z h0 a1 k1 .byte (2 : Int32) vs (.int (0 : Int32))) :
    MF l (⟨"java/lang/StringUTF16", "coderFromArrayLen", "([BI)B"⟩ : MethodName) jdk_52_method_15_code 2 (some .byte) ws ({ frames := 0, cells := 0, slots := 0, locals := 0 } : Room) #[(.ref a1), (.int (2 : Int32))] Z h0 (Q7_2 Z  h0 n0) := by
  refine MetFree.of_bodySF (plainFor_of_name pn_0) hisR ?_
  intro p e s m args below meth c s₁ Bd hml0 hP hK
  obtain ⟨rfl, hZ, hh⟩ := hP
  have hx := Bd.exec
  have hby := Bd.bytes
  have hml : c.maxLocals = 2 := hml0
  have hown : s.vm.findClass "java/lang/StringUTF16" = some m.cls := findClass_of_methodNamed Bd.named
  have hnm := (name_of_methodNamed Bd.named Bd.method).1
  have X0 : Stand p l e ({ frames := 0, cells := 0, slots := 0, locals := 0 } : Room) s m #[(.ref a1), (.int (2 : Int32))] below meth c s₁ [] 0 0 := Stand.of_body Bd
  have e0 : s₁.heap = h0 := by rw [← hh, Bd.state]; rfl
  have N0 := Fr.nil n0
  refine Goes.via (next := s₁.setTop (mkF m 0 #[.val (.ref a1), .val (.int (2 : Int32))] [])) (fun t k => castTop (ef_7_2 m a1) k) ?_
  refine Goes.via (next := s₁.setTop (mkF m 2 #[sr a1, si (2 : Int32)] [(.ref a1), (.int (2 : Int32))])) (fun t k => XS.iloadN X0.here hx rfl (hb hby d7_0) rfl (XS.aloadN X0.here hx rfl (hb hby d7_1) rfl rfl k)) ?_
  obtain ⟨cl1, Ar1, -, Sa1, Na1, -, -⟩ := id V1
  refine Goes.via (next := s₁.setTop (mkF m 3 #[sr a1, si (2 : Int32)] [(.int (2 : Int32)), (.int (2 : Int32))])) (fun t k => X0.arraylength hx (by rw [e0]; exact Ar1.1) (State.isArrayOf_alike hZ.alike Ar1.2.1) (g := (mkF m 2 #[sr a1, si (2 : Int32)] [(.ref a1), (.int (2 : Int32))])) rfl rfl (hb hby d7_2) _ (by rw [len_of Sa1 Na1]; exact k)) ?_
  refine Goes.via (next := s₁.setTop (mkF m 8 #[sr a1, si (2 : Int32)] [(.int (0 : Int32))])) (fun t k => XS.isub X0.here hx rfl (hb hby d7_3) rfl (XS.bipush X0.here hx rfl (hb hby d7_4) (XS.iushr X0.here hx rfl (hb hby d7_6) rfl (XS.i2b X0.here hx rfl (hb hby d7_7) rfl k)))) ?_
  obtain ⟨fs, hr, hrun, hended, hW, hsame⟩ := X0.leave (v := some (.int (0 : Int32))) (fun h => by rw [Bd.returns] at h; cases h)
  refine ⟨_, _, ?_, hrun, hended, _, _, rfl, ?_, ⟨_, rfl⟩, hW, hsame.mono (by decide) (by decide)⟩
  · exact retN X0 hx (t := .byte) Bd.returns (by simp) (hb hby d7_8) hr
  · show Q7_2 Z  h0 n0 _ s₁.heap _
    rw [e0]
    exact ⟨rfl, N0, rfl⟩
theorem d3_0 : decode jdk_42_method_149_code 0 = .ok (.aload_n 0, 1) := by decide +kernel
theorem d3_1 : decode jdk_42_method_149_code 1 = .ok (.invokespecial 1, 3) := by decide +kernel
theorem d3_4 : decode jdk_42_method_149_code 4 = .ok (.iload_n 3, 1) := by decide +kernel
theorem d3_5 : decode jdk_42_method_149_code 5 = .ok (.ifCond .ne 22, 3) := by decide +kernel
theorem d3_27 : decode jdk_42_method_149_code 27 = .ok (.getstatic 38, 3) := by decide +kernel
theorem d3_30 : decode jdk_42_method_149_code 30 = .ok (.ifCond .eq 28, 3) := by decide +kernel
theorem d3_33 : decode jdk_42_method_149_code 33 = .ok (.aload_n 1, 1) := by decide +kernel
theorem d3_34 : decode jdk_42_method_149_code 34 = .ok (.iload_n 2, 1) := by decide +kernel
theorem d3_35 : decode jdk_42_method_149_code 35 = .ok (.iload_n 3, 1) := by decide +kernel
theorem d3_36 : decode jdk_42_method_149_code 36 = .ok (.invokestatic 177, 3) := by decide +kernel
theorem d3_39 : decode jdk_42_method_149_code 39 = .ok (.astore 5, 2) := by decide +kernel
theorem d3_41 : decode jdk_42_method_149_code 41 = .ok (.aload_n 0, 1) := by decide +kernel
theorem d3_42 : decode jdk_42_method_149_code 42 = .ok (.aload 5, 2) := by decide +kernel
theorem d3_44 : decode jdk_42_method_149_code 44 = .ok (.iload_n 3, 1) := by decide +kernel
theorem d3_45 : decode jdk_42_method_149_code 45 = .ok (.invokestatic 47, 3) := by decide +kernel
theorem d3_48 : decode jdk_42_method_149_code 48 = .ok (.putfield 15, 3) := by decide +kernel
theorem d3_51 : decode jdk_42_method_149_code 51 = .ok (.aload_n 0, 1) := by decide +kernel
theorem d3_52 : decode jdk_42_method_149_code 52 = .ok (.aload 5, 2) := by decide +kernel
theorem d3_54 : decode jdk_42_method_149_code 54 = .ok (.putfield 9, 3) := by decide +kernel
theorem d3_57 : decode jdk_42_method_149_code 57 = .ok (.return_, 1) := by decide +kernel
theorem pn_1 : plainName "java/lang/String" = true := by first | (simp [plainName, overriddenIn]; done) | decide +kernel
theorem pd_1 : parseMethodDescriptor "([CII)[B" = some ⟨[(.array .char), .int, .int], some (.array .byte)⟩ := by decide +kernel
theorem pd_2 : parseMethodDescriptor "([BI)B" = some ⟨[(.array .byte), .int], some .byte⟩ := by decide +kernel
theorem ef_3_2 (m : MethodId) (x0 : Addr) (x1 : Addr) : entryFrame m #[(.ref x0), (.ref x1), (.int (0 : Int32)), (.int (2 : Int32)), .null] 6 = mkF m 0 #[.val (.ref x0), .val (.ref x1), .val (.int (0 : Int32)), .val (.int (2 : Int32)), .val .null, .unset] [] := by first | (simp [entryFrame, mkF, argsToLocals, Value.category]; done) | rfl
def Q3_2 (Z : State) (a1 : Addr) (c0 c1 : Int32) (h0 : Heap) (n0 : Nat) (v : Option Value) (h : Heap) (L : List Loc) : Prop := v = none ∧ Fr n0 L ∧ Keep h0 h [a1] ∧ Exa Z h a1 "java/lang/String" ∧ Fld Z h a1 "java/lang/String" "coder" "B" (.int (0 : Int32)) ∧ ∃ (t : Addr) (k : ClassId), n0 ≤ t ∧ h0.size ≤ t ∧ Fld Z h a1 "java/lang/String" "value" "[B" (.ref t) ∧ Arv Z h t k .byte (2 : Int32) [(.int (nar .byte (c0.toInt8.toInt32))), (.int (nar .byte (c1.toInt8.toInt32)))] (.int (0 : Int32))
set_option maxRecDepth 65536 in
set_option maxHeartbeats 40000000 in
theorem rm3_2 (l : Launch) (Z : State) (a0 : Array Value) (hw : ∀ d ∈ tables_1, d.before a0 Z = true) (ws : List Jvm.Cond) (a1 : Addr) (a2 : Addr) (k2 : ClassId) (c0 c1 : Int32) (w0 : Int32) (rE rL eL : Addr) (kL : ClassId) (nZ : Nat) (h0 : Heap) (n0 : Nat) (Z0 : n0 ≤ h0.size) (E1 : Exa Z h0 a1 "java/lang/String") (Fv : Fld Z h0 a1 "java/lang/String" "value" "[B" .null) (Fc : Fld Z h0 a1 "java/lang/String" "coder" "B" (.int (0 : Int32))) (V2 : Arv Z h0 a2 k2 .char (2 : Int32) [(.int c0), (.int c1)] (.int (0 : Int32))) (g1 : n0 ≤ a1) (ne12 : a1 ≠ a2) (O0 : Old Z nZ h0) (hz : nZ ≤ n0) (St : own_St Z w0 rE rL eL kL) (hc0 : ¬ ((255 : Int32) < c0)) (hc1 : ¬ ((255 : Int32) < c1)) :
    MF l (⟨"java/lang/String", "<init>", "([CIILjava/lang/Void;)V"⟩ : MethodName) jdk_42_method_149_code 6 none ws ({ frames := 2, cells := 1, slots := 2, locals := 35 } : Room) #[(.ref a1), (.ref a2), (.int (0 : Int32)), (.int (2 : Int32)), .null] Z h0 (Q3_2 Z a1 c0 c1 h0 n0) := by
  refine MetFree.of_bodySF (plainFor_of_name pn_1) hisR ?_
  intro p e s m args below meth c s₁ Bd hml0 hP hK
  obtain ⟨rfl, hZ, hh⟩ := hP
  have hx := Bd.exec
  have hby := Bd.bytes
  have hml : c.maxLocals = 6 := hml0
  have hown : s.vm.findClass "java/lang/String" = some m.cls := findClass_of_methodNamed Bd.named
  have hnm := (name_of_methodNamed Bd.named Bd.method).1
  have X0 : Stand p l e ({ frames := 2, cells := 1, slots := 2, locals := 35 } : Room) s m #[(.ref a1), (.ref a2), (.int (0 : Int32)), (.int (2 : Int32)), .null] below meth c s₁ [] 0 0 := Stand.of_body Bd
  have e0 : s₁.heap = h0 := by rw [← hh, Bd.state]; rfl
  have N0 := Fr.nil n0
  refine Goes.via (next := s₁.setTop (mkF m 0 #[.val (.ref a1), .val (.ref a2), .val (.int (0 : Int32)), .val (.int (2 : Int32)), .val .null, .unset] [])) (fun t k => castTop (ef_3_2 m a1 a2) k) ?_
  refine Goes.via (next := s₁.setTop (mkF m 1 #[sr a1, sr a2, si (0 : Int32), si (2 : Int32), .val .null, .unset] [(.ref a1)])) (fun t k => XS.aloadN X0.here hx rfl (hb hby d3_0) rfl rfl k) ?_
  obtain ⟨T1, X1, e1, st1⟩ := initO X0 hx hZ hown (Wd hw 15 rfl) (Wd hw 16 rfl) (Wd hw 17 rfl) e0 (g := (mkF m 1 #[sr a1, sr a2, si (0 : Int32), si (2 : Int32), .val .null, .unset] [(.ref a1)])) rfl (by rw [hml]; rfl) rfl (hb hby d3_1) (by decide) (W := 0) (by show 2 * 0 + _ ≤ _; exact Nat.le_of_eq rfl) (by decide)
  refine Goes.via (next := T1.setTop (mkF m 4 #[sr a1, sr a2, si (0 : Int32), si (2 : Int32), .val .null, .unset] [])) st1 ?_
  refine Goes.via (next := T1.setTop (mkF m 27 #[sr a1, sr a2, si (0 : Int32), si (2 : Int32), .val .null, .unset] [])) (fun t k => XS.iloadN X1.here hx rfl (hb hby d3_4) rfl (XS.ifYes X1.here hx rfl (pc0 := 5) (pc' := 27) rfl (hb hby d3_5) rfl ((if0 _ _).trans (feq (show ¬ ((2 : Int32) = (0 : Int32)) from (by decide))).2) (by decide) (by decide) k)) ?_
  obtain ⟨T2, X2, e2, st2⟩ := getS2 X1 hx hZ hown (host := "") (Or.inl (Wd hw 18 rfl)) Via.refl e1 (St.1.ext O0.2) (g := (mkF m 27 #[sr a1, sr a2, si (0 : Int32), si (2 : Int32), .val .null, .unset] [])) rfl (hb hby d3_27)
  refine Goes.via (next := T2.setTop (mkF m 30 #[sr a1, sr a2, si (0 : Int32), si (2 : Int32), .val .null, .unset] [(.int w0)])) st2 ?_
  have hc30_3 : ¬ (w0 = (0 : Int32)) := St.2.1
  refine Goes.via (next := T2.setTop (mkF m 33 #[sr a1, sr a2, si (0 : Int32), si (2 : Int32), .val .null, .unset] [])) (fun t k => XS.ifNo X2.here hx rfl (hb hby d3_30) rfl ((if0 _ _).trans (feq hc30_3).1) k) ?_
  refine Goes.via (next := T2.setTop (mkF m 36 #[sr a1, sr a2, si (0 : Int32), si (2 : Int32), .val .null, .unset] [(.int (2 : Int32)), (.int (0 : Int32)), (.ref a2)])) (fun t k => XS.aloadN X2.here hx rfl (hb hby d3_33) rfl rfl (XS.iloadN X2.here hx rfl (hb hby d3_34) rfl (XS.iloadN X2.here hx rfl (hb hby d3_35) rfl k))) ?_
  obtain ⟨_, _, ⟨T4, L4, k4, n4⟩, -, X4, ⟨Lc4, hQ4, l4, y4, z4⟩, st4⟩ := Jvm.LawKit.callS X2 hx (y := (⟨"java/lang/StringUTF16", "compress", "([CII)[B"⟩ : MethodName)) hown (mvT hZ (Wd hw 19 rfl)) (mvT hZ (Wd hw 20 rfl)) (mvT hZ (Wd hw 21 rfl)) (mvT hZ (Wd hw 22 rfl)) (by decide) (backOf (W := 0) (rm5_2 l Z a0 hw [] a2 k2 c0 c1 h0 n0 Z0 V2 hc0 hc1) hZ (Wd hw 22 rfl) (Wd hw 21 rfl) (by decide) (by decide)) (g := (mkF m 36 #[sr a1, sr a2, si (0 : Int32), si (2 : Int32), .val .null, .unset] [(.int (2 : Int32)), (.int (0 : Int32)), (.ref a2)])) rfl (by rw [hml]; rfl) (argsL := [(.ref a2), (.int (0 : Int32)), (.int (2 : Int32))]) (rest := []) (lenOf pd_1 rfl) rfl (by show 2 * 0 + _ ≤ _; exact Nat.le_of_eq rfl) (hb hby d3_36) (fun _ _ => ⟨rfl, e2, (by decide : 0 + 1 ≤ _), (by decide : 0 + 2 ≤ _)⟩)
  dsimp only [Pt.U, Pt.locs, Pt.cells, Pt.slots] at X4 l4 y4 z4 st4 hQ4
  subst l4 y4 z4
  obtain ⟨t4, kt4, rfl, N4q, gt4, zt4, Kc4, Vc4⟩ := hQ4
  have lt_a1_t4 : a1 < t4 := Nat.lt_of_lt_of_le E1.lt zt4
  have lt_a2_t4 : a2 < t4 := Nat.lt_of_lt_of_le V2.lt zt4
  have sz_t4 : h0.size ≤ t4 := Nat.le_trans (Keep.refl h0 [a1]).1 zt4
  have F4_16 := E1.keep Kc4
  have F4_17 := Fv.keep Kc4 List.not_mem_nil
  have F4_18 := Fc.keep Kc4 List.not_mem_nil
  have F4_19 := V2.keep Kc4 List.not_mem_nil
  have K4 : Keep h0 T4.heap [a1] := (Keep.refl h0 [a1]).trans Kc4 (fun x hx => nomatch hx)
  have Z4 : n0 ≤ T4.heap.size := Nat.le_trans Z0 Kc4.1
  have O4 := O0.keep Kc4 (fun x hx => nomatch hx)
  have N4 := Fr.app N0 N4q
  refine Goes.via (next := T4.setTop (mkF m 39 #[sr a1, sr a2, si (0 : Int32), si (2 : Int32), .val .null, .unset] [(.ref t4)])) st4 ?_
  refine Goes.via (next := T4.setTop (mkF m 45 #[sr a1, sr a2, si (0 : Int32), si (2 : Int32), .val .null, sr t4] [(.int (2 : Int32)), (.ref t4), (.ref a1)])) (fun t k => XS.astore X4.here hx rfl (hb hby d3_39) rfl rfl (l' := #[sr a1, sr a2, si (0 : Int32), si (2 : Int32), .val .null, sr t4]) rfl (XS.aloadN X4.here hx rfl (hb hby d3_41) rfl rfl (XS.aload X4.here hx rfl (hb hby d3_42) rfl rfl (XS.iloadN X4.here hx rfl (hb hby d3_44) rfl k)))) ?_
  obtain ⟨Lw5, X5w, N5w⟩ := ownPack X4 N4
  obtain ⟨_, _, ⟨T6, L6, k6, n6⟩, -, X6, ⟨Lc6, hQ6, l6, y6, z6⟩, st6⟩ := Jvm.LawKit.callS X5w hx (y := (⟨"java/lang/StringUTF16", "coderFromArrayLen", "([BI)B"⟩ : MethodName)) hown (mvT hZ (Wd hw 27 rfl)) (mvT hZ (Wd hw 28 rfl)) (mvT hZ (Wd hw 21 rfl)) (mvT hZ (Wd hw 29 rfl)) (by decide) (backOf (W := 1) (rm7_2 l Z a0 hw [] t4 kt4 _ T4.heap n0 Z4 Vc4) hZ (Wd hw 29 rfl) (Wd hw 21 rfl) (by decide) (by decide)) (g := (mkF m 45 #[sr a1, sr a2, si (0 : Int32), si (2 : Int32), .val .null, sr t4] [(.int (2 : Int32)), (.ref t4), (.ref a1)])) rfl (by rw [hml]; rfl) (argsL := [(.ref t4), (.int (2 : Int32))]) (rest := [(.ref a1)]) (lenOf pd_2 rfl) rfl (by show 2 * 0 + _ ≤ _; exact Nat.le_of_eq rfl) (hb hby d3_45) (fun _ _ => ⟨rfl, rfl, (by decide : 1 + 0 ≤ _), (by decide : 2 + 0 ≤ _)⟩)
  dsimp only [Pt.U, Pt.locs, Pt.cells, Pt.slots] at X6 l6 y6 z6 st6 hQ6
  subst l6 y6 z6
  obtain ⟨rfl, N6q, er6⟩ := hQ6
  have e6 : T6.heap = T4.heap := er6
  have N6 := Fr.app N5w N6q
  refine Goes.via (next := T6.setTop (mkF m 48 #[sr a1, sr a2, si (0 : Int32), si (2 : Int32), .val .null, sr t4] [(.int (0 : Int32)), (.ref a1)])) st6 ?_
  obtain ⟨T7, h7, X7, e7, W7, st7⟩ := putFN X6 hx hZ hown (Wd hw 30 rfl) Via.refl e6 F4_18 F4_16 (Or.inr ⟨(Wd hw 31 rfl), rfl, hnm⟩) (Wd hw 5 rfl) (ty := .byte) (v' := (.int (0 : Int32))) (by decide) rfl (by decide) (g := (mkF m 48 #[sr a1, sr a2, si (0 : Int32), si (2 : Int32), .val .null, sr t4] [(.int (0 : Int32)), (.ref a1)])) rfl rfl (hb hby d3_48)
  have Fw7 := F4_18.same W7
  have F7_36 := F4_16.wr W7
  have F7_37 := F4_17.other W7 (Or.inr (slot_ne (Or.inr (Wd hw 33 rfl)) (Or.inr (Wd hw 31 rfl)) (by decide) (t := (.array .byte)) (t' := .byte) (by decide) (by decide)))
  have F7_38 := F4_19.other W7 (Ne.symm ne12)
  have F7_39 := Vc4.other W7 (Nat.ne_of_gt lt_a1_t4)
  have K7 : Keep h0 h7 [a1] := K4.wr W7 (Or.inl (List.mem_of_getElem? (i := 0) rfl))
  have Z7 : n0 ≤ h7.size := Nat.le_trans Z4 (Keep.of_wr W7).1
  have N7 := Fr.snoc X7 N6 g1
  have O7 := O4.wr W7 (Nat.le_trans hz g1)
  refine Goes.via (next := T7.setTop (mkF m 51 #[sr a1, sr a2, si (0 : Int32), si (2 : Int32), .val .null, sr t4] [])) st7 ?_
  refine Goes.via (next := T7.setTop (mkF m 54 #[sr a1, sr a2, si (0 : Int32), si (2 : Int32), .val .null, sr t4] [(.ref t4), (.ref a1)])) (fun t k => XS.aloadN X7.here hx rfl (hb hby d3_51) rfl rfl (XS.aload X7.here hx rfl (hb hby d3_52) rfl rfl k)) ?_
  obtain ⟨T8, h8, X8, e8, W8, st8⟩ := putF X7 hx hZ hown (host := "") (Or.inl (Wd hw 32 rfl)) Via.refl e7 F7_37 F7_36 (Or.inr ⟨(Wd hw 33 rfl), rfl, hnm⟩) (Wd hw 5 rfl) (ty := (.array .byte)) (by decide) rfl rfl (g := (mkF m 54 #[sr a1, sr a2, si (0 : Int32), si (2 : Int32), .val .null, sr t4] [(.ref t4), (.ref a1)])) rfl rfl (hb hby d3_54)
  have Fw8 := F7_37.same W8
  have F8_48 := F7_36.wr W8
  have F8_49 := F7_38.other W8 (Ne.symm ne12)
  have F8_50 := F7_39.other W8 (Nat.ne_of_gt lt_a1_t4)
  have F8_51 := Fw7.other W8 (Or.inr (slot_ne (Or.inr (Wd hw 31 rfl)) (Or.inr (Wd hw 33 rfl)) (by decide) (t := .byte) (t' := (.array .byte)) (by decide) (by decide)))
  have K8 : Keep h0 h8 [a1] := K7.wr W8 (Or.inl (List.mem_of_getElem? (i := 0) rfl))
  have Z8 : n0 ≤ h8.size := Nat.le_trans Z7 (Keep.of_wr W8).1
  have N8 := Fr.snoc X8 N7 g1
  have O8 := O7.wr W8 (Nat.le_trans hz g1)
  refine Goes.via (next := T8.setTop (mkF m 57 #[sr a1, sr a2, si (0 : Int32), si (2 : Int32), .val .null, sr t4] [])) st8 ?_
  obtain ⟨fs, hr, hrun, hended, hW, hsame⟩ := X8.leave (v := none) (fun _ => rfl)
  refine ⟨_, _, ?_, hrun, hended, _, _, rfl, ?_, ⟨_, rfl⟩, hW, hsame.mono (by decide) (by decide)⟩
  · exact X8.returnOut hx Bd.returns (hb hby d3_57) hr
  · show Q3_2 Z a1 c0 c1 h0 n0 _ T8.heap _
    rw [e8]
    exact ⟨rfl, N8, K8, F8_48, F8_51, t4, _, gt4, sz_t4, Fw8, F8_50⟩
theorem d2_0 : decode jdk_42_method_3_code 0 = .ok (.aload_n 0, 1) := by decide +kernel
theorem d2_1 : decode jdk_42_method_3_code 1 = .ok (.aload_n 1, 1) := by decide +kernel
theorem d2_2 : decode jdk_42_method_3_code 2 = .ok (.iconst 0, 1) := by decide +kernel
theorem d2_3 : decode jdk_42_method_3_code 3 = .ok (.aload_n 1, 1) := by decide +kernel
theorem d2_4 : decode jdk_42_method_3_code 4 = .ok (.arraylength, 1) := by decide +kernel
theorem d2_5 : decode jdk_42_method_3_code 5 = .ok (.aconst_null, 1) := by decide +kernel
theorem d2_6 : decode jdk_42_method_3_code 6 = .ok (.invokespecial 27, 3) := by decide +kernel
theorem d2_9 : decode jdk_42_method_3_code 9 = .ok (.return_, 1) := by decide +kernel
theorem pd_3 : parseMethodDescriptor "([CIILjava/lang/Void;)V" = some ⟨[(.array .char), .int, .int, (.object "java/lang/Void")], none⟩ := by decide +kernel
theorem ef_2_2 (m : MethodId) (x0 : Addr) (x1 : Addr) : entryFrame m #[(.ref x0), (.ref x1)] 2 = mkF m 0 #[.val (.ref x0), .val (.ref x1)] [] := by first | (simp [entryFrame, mkF, argsToLocals, Value.category]; done) | rfl
def Q2_2 (Z : State) (a1 : Addr) (c0 c1 : Int32) (h0 : Heap) (n0 : Nat) (v : Option Value) (h : Heap) (L : List Loc) : Prop := v = none ∧ Fr n0 L ∧ Keep h0 h [a1] ∧ Exa Z h a1 "java/lang/String" ∧ Fld Z h a1 "java/lang/String" "coder" "B" (.int (0 : Int32)) ∧ ∃ (t : Addr) (k : ClassId), n0 ≤ t ∧ h0.size ≤ t ∧ Fld Z h a1 "java/lang/String" "value" "[B" (.ref t) ∧ Arv Z h t k .byte (2 : Int32) [(.int (nar .byte (c0.toInt8.toInt32))), (.int (nar .byte (c1.toInt8.toInt32)))] (.int (0 : Int32))
set_option maxRecDepth 65536 in
set_option maxHeartbeats 40000000 in
theorem rm2_2 (l : Launch) (Z : State) (a0 : Array Value) (hw : ∀ d ∈ tables_1, d.before a0 Z = true) (ws : List Jvm.Cond) (a1 : Addr) (a2 : Addr) (k2 : ClassId) (c0 c1 : Int32) (w0 : Int32) (rE rL eL : Addr) (kL : ClassId) (nZ : Nat) (h0 : Heap) (n0 : Nat) (Z0 : n0 ≤ h0.size) (E1 : Exa Z h0 a1 "java/lang/String") (Fv : Fld Z h0 a1 "java/lang/String" "value" "[B" .null) (Fc : Fld Z h0 a1 "java/lang/String" "coder" "B" (.int (0 : Int32))) (V2 : Arv Z h0 a2 k2 .char (2 : Int32) [(.int c0), (.int c1)] (.int (0 : Int32))) (g1 : n0 ≤ a1) (ne12 : a1 ≠ a2) (O0 : Old Z nZ h0) (hz : nZ ≤ n0) (St : own_St Z w0 rE rL eL kL) (hc0 : ¬ ((255 : Int32) < c0)) (hc1 : ¬ ((255 : Int32) < c1)) :
    MF l (⟨"java/lang/String", "<init>", "([C)V"⟩ : MethodName) jdk_42_method_3_code 2 none ws ({ frames := 3, cells := 1, slots := 2, locals := 52 } : Room) #[(.ref a1), (.ref a2)] Z h0 (Q2_2 Z a1 c0 c1 h0 n0) := by
  refine MetFree.of_bodySF (plainFor_of_name pn_1) hisR ?_
  intro p e s m args below meth c s₁ Bd hml0 hP hK
  obtain ⟨rfl, hZ, hh⟩ := hP
  have hx := Bd.exec
  have hby := Bd.bytes
  have hml : c.maxLocals = 2 := hml0
  have hown : s.vm.findClass "java/lang/String" = some m.cls := findClass_of_methodNamed Bd.named
  have hnm := (name_of_methodNamed Bd.named Bd.method).1
  have X0 : Stand p l e ({ frames := 3, cells := 1, slots := 2, locals := 52 } : Room) s m #[(.ref a1), (.ref a2)] below meth c s₁ [] 0 0 := Stand.of_body Bd
  have e0 : s₁.heap = h0 := by rw [← hh, Bd.state]; rfl
  have N0 := Fr.nil n0
  refine Goes.via (next := s₁.setTop (mkF m 0 #[.val (.ref a1), .val (.ref a2)] [])) (fun t k => castTop (ef_2_2 m a1 a2) k) ?_
  refine Goes.via (next := s₁.setTop (mkF m 4 #[sr a1, sr a2] [(.ref a2), (.int (0 : Int32)), (.ref a2), (.ref a1)])) (fun t k => XS.aloadN X0.here hx rfl (hb hby d2_0) rfl rfl (XS.aloadN X0.here hx rfl (hb hby d2_1) rfl rfl (XS.iconst X0.here hx rfl (hb hby d2_2) (XS.aloadN X0.here hx rfl (hb hby d2_3) rfl rfl k)))) ?_
  obtain ⟨cl1, Ar1, -, Sa1, Na1, -, -⟩ := id V2
  refine Goes.via (next := s₁.setTop (mkF m 5 #[sr a1, sr a2] [(.int (2 : Int32)), (.int (0 : Int32)), (.ref a2), (.ref a1)])) (fun t k => X0.arraylength hx (by rw [e0]; exact Ar1.1) (State.isArrayOf_alike hZ.alike Ar1.2.1) (g := (mkF m 4 #[sr a1, sr a2] [(.ref a2), (.int (0 : Int32)), (.ref a2), (.ref a1)])) rfl rfl (hb hby d2_4) _ (by rw [len_of Sa1 Na1]; exact k)) ?_
  refine Goes.via (next := s₁.setTop (mkF m 6 #[sr a1, sr a2] [.null, (.int (2 : Int32)), (.int (0 : Int32)), (.ref a2), (.ref a1)])) (fun t k => XS.aconstNull X0.here hx rfl (hb hby d2_5) k) ?_
  obtain ⟨_, _, ⟨T2, L2, k2, n2⟩, -, X2, ⟨Lc2, hQ2, l2, y2, z2⟩, st2⟩ := X0.specialBack hx (y := (⟨"java/lang/String", "<init>", "([CIILjava/lang/Void;)V"⟩ : MethodName)) rfl hown (mvT hZ (Wd hw 11 rfl)) (mvT hZ (Wd hw 12 rfl)) (mvT hZ (Wd hw 14 rfl)) (by decide) (backOf (W := 0) (rm3_2 l Z a0 hw [] a1 a2 k2 c0 c1 w0 rE rL eL kL nZ h0 n0 Z0 E1 Fv Fc V2 g1 ne12 O0 hz St hc0 hc1) hZ (Wd hw 14 rfl) (Wd hw 6 rfl) (by decide) (by decide)) (g := (mkF m 6 #[sr a1, sr a2] [.null, (.int (2 : Int32)), (.int (0 : Int32)), (.ref a2), (.ref a1)])) rfl (by rw [hml]; rfl) (Steps.refl _) (a := a1) (argsL := [(.ref a2), (.int (0 : Int32)), (.int (2 : Int32)), .null]) (rest := []) (lenOf pd_3 rfl) rfl (by show 2 * 0 + _ ≤ _; exact Nat.le_of_eq rfl) (hb hby d2_6) (fun _ _ => ⟨rfl, e0, (by decide : 0 + 1 ≤ _), (by decide : 0 + 2 ≤ _)⟩)
  dsimp only [Pt.U, Pt.locs, Pt.cells, Pt.slots] at X2 l2 y2 z2 st2 hQ2
  subst l2 y2 z2
  obtain ⟨rfl, N2q, Kc2, Ec2, Cc2, t2, kt2, gt2, zt2, Vq2, Vc2⟩ := hQ2
  have lt_a1_t2 : a1 < t2 := Nat.lt_of_lt_of_le E1.lt zt2
  have lt_a2_t2 : a2 < t2 := Nat.lt_of_lt_of_le V2.lt zt2
  have sz_t2 : h0.size ≤ t2 := Nat.le_trans (Keep.refl h0 [a1]).1 zt2
  have F2_11 := E1.keep Kc2
  have F2_12 := V2.keep Kc2 (fun q => (Ne.symm ne12) (List.mem_singleton.mp q))
  have K2 : Keep h0 T2.heap [a1] := (Keep.refl h0 [a1]).trans Kc2 (fun x hx => by cases List.mem_singleton.mp hx; exact Or.inl (List.mem_of_getElem? (i := 0) rfl))
  have Z2 : n0 ≤ T2.heap.size := Nat.le_trans Z0 Kc2.1
  have O2 := O0.keep Kc2 (fun x hx => by cases List.mem_singleton.mp hx; exact (Nat.le_trans hz g1))
  have N2 := Fr.app N0 N2q
  refine Goes.via (next := T2.setTop (mkF m 9 #[sr a1, sr a2] [])) (fun t k => st2.trans k) ?_
  obtain ⟨fs, hr, hrun, hended, hW, hsame⟩ := X2.leave (v := none) (fun _ => rfl)
  refine ⟨_, _, ?_, hrun, hended, _, _, rfl, ?_, ⟨_, rfl⟩, hW, hsame.mono (by decide) (by decide)⟩
  · exact X2.returnOut hx Bd.returns (hb hby d2_9) hr
  · show Q2_2 Z a1 c0 c1 h0 n0 _ T2.heap _
    exact ⟨rfl, N2, K2, F2_11, Cc2, t2, _, gt2, sz_t2, Vq2, Vc2⟩
theorem ef_6_4 (m : MethodId) (x0 : Addr) (x2 : Addr) : entryFrame m #[(.ref x0), (.int (0 : Int32)), (.ref x2), (.int (0 : Int32)), (.int (4 : Int32))] 7 = mkF m 0 #[.val (.ref x0), .val (.int (0 : Int32)), .val (.ref x2), .val (.int (0 : Int32)), .val (.int (4 : Int32)), .unset, .unset] [] := by first | (simp [entryFrame, mkF, argsToLocals, Value.category]; done) | rfl
def Q6_4 (Z : State) (a2 : Addr) (k2 : ClassId) (c0 c1 c2 c3 : Int32) (h0 : Heap) (n0 : Nat) (v : Option Value) (h : Heap) (L : List Loc) : Prop := v = some (.int (4 : Int32)) ∧ Fr n0 L ∧ Keep h0 h [a2] ∧ Arv Z h a2 k2 .byte (4 : Int32) [(.int (nar .byte (c0.toInt8.toInt32))), (.int (nar .byte (c1.toInt8.toInt32))), (.int (nar .byte (c2.toInt8.toInt32))), (.int (nar .byte (c3.toInt8.toInt32)))] (.int (0 : Int32))
set_option maxRecDepth 65536 in
set_option maxHeartbeats 40000000 in
theorem rm6_4 (l : Launch) (Z : State) (a0 : Array Value) (hw : ∀ d ∈ tables_1, d.before a0 Z = true) (ws : List Jvm.Cond) (a1 : Addr) (a2 : Addr) (k1 k2 : ClassId) (c0 c1 c2 c3 : Int32) (h0 : Heap) (n0 : Nat) (Z0 : n0 ≤ h0.size) (V1 : Arv Z h0 a1 k1 .char (4 : Int32) [(.int c0), (.int c1), (.int c2), (.int c3)] (.int (0 : Int32))) (V2 : Arv Z h0 a2 k2 .byte (4 : Int32) [(.int (0 : Int32)), (.int (0 : Int32)), (.int (0 : Int32)), (.int (0 : Int32))] (.int (0 : Int32))) (g2 : n0 ≤ a2) (lt12 : a1 < a2) (hc0 : ¬ ((255 : Int32) < c0)) (hc1 : ¬ ((255 : Int32) < c1)) (hc2 : ¬ ((255 : Int32) < c2)) (hc3 : ¬ ((255 : Int32) < c3)) :
    MF l (⟨"java/lang/StringUTF16", "compress", "([CI[BII)I"⟩ : MethodName) jdk_52_method_21_code 7 (some .int) ws ({ frames := 0, cells := 0, slots := 0, locals := 0 } : Room) #[(.ref a1), (.int (0 : Int32)), (.ref a2), (.int (0 : Int32)), (.int (4 : Int32))] Z h0 (Q6_4 Z a2 k2 c0 c1 c2 c3 h0 n0) := by
  refine MetFree.of_bodySF (plainFor_of_name pn_0) hisR ?_
  intro p e s m args below meth c s₁ Bd hml0 hP hK
  obtain ⟨rfl, hZ, hh⟩ := hP
  have hx := Bd.exec
  have hby := Bd.bytes
  have hml : c.maxLocals = 7 := hml0
  have hown : s.vm.findClass "java/lang/StringUTF16" = some m.cls := findClass_of_methodNamed Bd.named
  have hnm := (name_of_methodNamed Bd.named Bd.method).1
  have X0 : Stand p l e ({ frames := 0, cells := 0, slots := 0, locals := 0 } : Room) s m #[(.ref a1), (.int (0 : Int32)), (.ref a2), (.int (0 : Int32)), (.int (4 : Int32))] below meth c s₁ [] 0 0 := Stand.of_body Bd
  have e0 : s₁.heap = h0 := by rw [← hh, Bd.state]; rfl
  have N0 := Fr.nil n0
  refine Goes.via (next := s₁.setTop (mkF m 0 #[.val (.ref a1), .val (.int (0 : Int32)), .val (.ref a2), .val (.int (0 : Int32)), .val (.int (4 : Int32)), .unset, .unset] [])) (fun t k => castTop (ef_6_4 m a1 a2) k) ?_
  refine Goes.via (next := s₁.setTop (mkF m 11 #[sr a1, si (0 : Int32), sr a2, si (0 : Int32), si (4 : Int32), si (0 : Int32), .unset] [(.ref a1)])) (fun t k => XS.iconst X0.here hx rfl (hb hby d6_0) (XS.istore X0.here hx rfl (hb hby d6_1) rfl (l' := #[sr a1, si (0 : Int32), sr a2, si (0 : Int32), si (4 : Int32), si (0 : Int32), .unset]) rfl (XS.iload X0.here hx rfl (hb hby d6_3) rfl (XS.iload X0.here hx rfl (hb hby d6_5) rfl (XS.icmpNo X0.here hx rfl (hb hby d6_7) rfl (tlt (show (0 : Int32) < (4 : Int32) from (by decide))).2.1 (XS.aloadN X0.here hx rfl (hb hby d6_10) rfl rfl k)))))) ?_
  refine Goes.via (next := s₁.setTop (mkF m 12 #[sr a1, si (0 : Int32), sr a2, si (0 : Int32), si (4 : Int32), si (0 : Int32), .unset] [(.int (0 : Int32)), (.ref a1)])) (fun t k => XS.iloadN X0.here hx rfl (hb hby d6_11) rfl k) ?_
  obtain ⟨cl1, Ar1, qa1, Sa1, Na1, Ha1, Ga1⟩ := id V1
  have hin1 : ¬ ((0 : Int32) < 0 ∨ cl1.slots.size ≤ ((0 : Int32)).toNatClampNeg) := inb_of Sa1 ⟨by decide, by decide⟩
  have hat1 : cl1.slots[((0 : Int32)).toNatClampNeg]? = some (.int c0) := Ha1.at hin1 rfl
  refine Goes.via (next := s₁.setTop (mkF m 13 #[sr a1, si (0 : Int32), sr a2, si (0 : Int32), si (4 : Int32), si (0 : Int32), .unset] [(.int c0)])) (fun t k => X0.caload hx (j := (0 : Int32)) (v := (.int c0)) (by rw [e0]; exact Ar1.1) (State.isArrayOf_alike hZ.alike Ar1.2.1) Ar1.2.2 hin1 hat1 (g := (mkF m 12 #[sr a1, si (0 : Int32), sr a2, si (0 : Int32), si (4 : Int32), si (0 : Int32), .unset] [(.int (0 : Int32)), (.ref a1)])) rfl rfl (hb hby d6_12) _ k) ?_
  refine Goes.via (next := s₁.setTop (mkF m 20 #[sr a1, si (0 : Int32), sr a2, si (0 : Int32), si (4 : Int32), si (0 : Int32), si c0] [(.int (255 : Int32)), (.int c0)])) (fun t k => XS.istore X0.here hx rfl (hb hby d6_13) rfl (l' := #[sr a1, si (0 : Int32), sr a2, si (0 : Int32), si (4 : Int32), si (0 : Int32), si c0]) rfl (XS.iload X0.here hx rfl (hb hby d6_15) rfl (XS.sipush X0.here hx rfl (hb hby d6_17) k))) ?_
  refine Goes.via (next := s₁.setTop (mkF m 26 #[sr a1, si (0 : Int32), sr a2, si (0 : Int32), si (4 : Int32), si (0 : Int32), si c0] [])) (fun t k => XS.icmpYes X0.here hx rfl (pc0 := 20) (pc' := 26) rfl (hb hby d6_20) rfl (flt hc0).2.2.2 (by decide) (by decide) k) ?_
  refine Goes.via (next := s₁.setTop (mkF m 31 #[sr a1, si (0 : Int32), sr a2, si (0 : Int32), si (4 : Int32), si (0 : Int32), si c0] [(.int (c0.toInt8.toInt32)), (.int (0 : Int32)), (.ref a2)])) (fun t k => XS.aloadN X0.here hx rfl (hb hby d6_26) rfl rfl (XS.iloadN X0.here hx rfl (hb hby d6_27) rfl (XS.iload X0.here hx rfl (hb hby d6_28) rfl (XS.i2b X0.here hx rfl (hb hby d6_30) rfl k)))) ?_
  obtain ⟨cl2, Ar2, qa2, Sa2, Na2, Ha2, Ga2⟩ := V2
  have hin2 : ¬ ((0 : Int32) < 0 ∨ cl2.slots.size ≤ ((0 : Int32)).toNatClampNeg) := inb_of Sa2 ⟨by decide, by decide⟩
  obtain ⟨T2, h2, X2, e2, W2, st2⟩ := stB X0 hx hZ e0 Ar2 (j := (0 : Int32)) hin2 (g := (mkF m 31 #[sr a1, si (0 : Int32), sr a2, si (0 : Int32), si (4 : Int32), si (0 : Int32), si c0] [(.int (c0.toInt8.toInt32)), (.int (0 : Int32)), (.ref a2)])) rfl rfl (hb hby d6_31)
  have V2 : Arv Z h2 a2 k2 .byte (4 : Int32) [(.int (nar .byte (c0.toInt8.toInt32))), (.int (0 : Int32)), (.int (0 : Int32)), (.int (0 : Int32))] (.int (0 : Int32)) := Arv.set Ar2 qa2 Sa2 Na2 Ha2 Ga2 (fits_nar_byte _) W2 0 rfl (Nat.le_of_ble_eq_true rfl)
  have F2_13 := V1.other W2 (Nat.ne_of_lt lt12)
  have K2 : Keep h0 h2 [a2] := (Keep.refl h0 [a2]).wr W2 (Or.inl (List.mem_of_getElem? (i := 0) rfl))
  have Z2 : n0 ≤ h2.size := Nat.le_trans Z0 (Keep.of_wr W2).1
  have N2 := Fr.snoc X2 N0 g2
  refine Goes.via (next := T2.setTop (mkF m 32 #[sr a1, si (0 : Int32), sr a2, si (0 : Int32), si (4 : Int32), si (0 : Int32), si c0] [])) st2 ?_
  refine Goes.via (next := T2.setTop (mkF m 7 #[sr a1, si (1 : Int32), sr a2, si (1 : Int32), si (4 : Int32), si (1 : Int32), si c0] [(.int (4 : Int32)), (.int (1 : Int32))])) (fun t k => XS.iinc X2.here hx rfl (hb hby d6_32) rfl (l' := #[sr a1, si (1 : Int32), sr a2, si (0 : Int32), si (4 : Int32), si (0 : Int32), si c0]) rfl (XS.iinc X2.here hx rfl (hb hby d6_35) rfl (l' := #[sr a1, si (1 : Int32), sr a2, si (1 : Int32), si (4 : Int32), si (0 : Int32), si c0]) rfl (XS.iinc X2.here hx rfl (hb hby d6_38) rfl (l' := #[sr a1, si (1 : Int32), sr a2, si (1 : Int32), si (4 : Int32), si (1 : Int32), si c0]) rfl (XS.goto X2.here hx rfl (pc0 := 41) (pc' := 3) rfl (hb hby d6_41) (by decide) (by decide) (XS.iload X2.here hx rfl (hb hby d6_3) rfl (XS.iload X2.here hx rfl (hb hby d6_5) rfl k)))))) ?_
  refine Goes.via (next := T2.setTop (mkF m 10 #[sr a1, si (1 : Int32), sr a2, si (1 : Int32), si (4 : Int32), si (1 : Int32), si c0] [])) (fun t k => XS.icmpNo X2.here hx rfl (hb hby d6_7) rfl (tlt (show (1 : Int32) < (4 : Int32) from (by decide))).2.1 k) ?_
  refine Goes.via (next := T2.setTop (mkF m 12 #[sr a1, si (1 : Int32), sr a2, si (1 : Int32), si (4 : Int32), si (1 : Int32), si c0] [(.int (1 : Int32)), (.ref a1)])) (fun t k => XS.aloadN X2.here hx rfl (hb hby d6_10) rfl rfl (XS.iloadN X2.here hx rfl (hb hby d6_11) rfl k)) ?_
  obtain ⟨cl3, Ar3, qa3, Sa3, Na3, Ha3, Ga3⟩ := id F2_13
  have hin3 : ¬ ((1 : Int32) < 0 ∨ cl3.slots.size ≤ ((1 : Int32)).toNatClampNeg) := inb_of Sa3 ⟨by decide, by decide⟩
  have hat3 : cl3.slots[((1 : Int32)).toNatClampNeg]? = some (.int c1) := Ha3.at hin3 rfl
  refine Goes.via (next := T2.setTop (mkF m 13 #[sr a1, si (1 : Int32), sr a2, si (1 : Int32), si (4 : Int32), si (1 : Int32), si c0] [(.int c1)])) (fun t k => X2.caload hx (j := (1 : Int32)) (v := (.int c1)) (by rw [e2]; exact Ar3.1) (State.isArrayOf_alike hZ.alike Ar3.2.1) Ar3.2.2 hin3 hat3 (g := (mkF m 12 #[sr a1, si (1 : Int32), sr a2, si (1 : Int32), si (4 : Int32), si (1 : Int32), si c0] [(.int (1 : Int32)), (.ref a1)])) rfl rfl (hb hby d6_12) _ k) ?_
  refine Goes.via (next := T2.setTop (mkF m 20 #[sr a1, si (1 : Int32), sr a2, si (1 : Int32), si (4 : Int32), si (1 : Int32), si c1] [(.int (255 : Int32)), (.int c1)])) (fun t k => XS.istore X2.here hx rfl (hb hby d6_13) rfl (l' := #[sr a1, si (1 : Int32), sr a2, si (1 : Int32), si (4 : Int32), si (1 : Int32), si c1]) rfl (XS.iload X2.here hx rfl (hb hby d6_15) rfl (XS.sipush X2.here hx rfl (hb hby d6_17) k))) ?_
  refine Goes.via (next := T2.setTop (mkF m 26 #[sr a1, si (1 : Int32), sr a2, si (1 : Int32), si (4 : Int32), si (1 : Int32), si c1] [])) (fun t k => XS.icmpYes X2.here hx rfl (pc0 := 20) (pc' := 26) rfl (hb hby d6_20) rfl (flt hc1).2.2.2 (by decide) (by decide) k) ?_
  refine Goes.via (next := T2.setTop (mkF m 31 #[sr a1, si (1 : Int32), sr a2, si (1 : Int32), si (4 : Int32), si (1 : Int32), si c1] [(.int (c1.toInt8.toInt32)), (.int (1 : Int32)), (.ref a2)])) (fun t k => XS.aloadN X2.here hx rfl (hb hby d6_26) rfl rfl (XS.iloadN X2.here hx rfl (hb hby d6_27) rfl (XS.iload X2.here hx rfl (hb hby d6_28) rfl (XS.i2b X2.here hx rfl (hb hby d6_30) rfl k)))) ?_
  obtain ⟨cl4, Ar4, qa4, Sa4, Na4, Ha4, Ga4⟩ := V2
  have hin4 : ¬ ((1 : Int32) < 0 ∨ cl4.slots.size ≤ ((1 : Int32)).toNatClampNeg) := inb_of Sa4 ⟨by decide, by decide⟩
  obtain ⟨T4, h4, X4, e4, W4, st4⟩ := stB X2 hx hZ e2 Ar4 (j := (1 : Int32)) hin4 (g := (mkF m 31 #[sr a1, si (1 : Int32), sr a2, si (1 : Int32), si (4 : Int32), si (1 : Int32), si c1] [(.int (c1.toInt8.toInt32)), (.int (1 : Int32)), (.ref a2)])) rfl rfl (hb hby d6_31)
  have V4 : Arv Z h4 a2 k2 .byte (4 : Int32) [(.int (nar .byte (c0.toInt8.toInt32))), (.int (nar .byte (c1.toInt8.toInt32))), (.int (0 : Int32)), (.int (0 : Int32))] (.int (0 : Int32)) := Arv.set Ar4 qa4 Sa4 Na4 Ha4 Ga4 (fits_nar_byte _) W4 1 rfl (Nat.le_of_ble_eq_true rfl)
  have F4_32 := F2_13.other W4 (Nat.ne_of_lt lt12)
  have K4 : Keep h0 h4 [a2] := K2.wr W4 (Or.inl (List.mem_of_getElem? (i := 0) rfl))
  have Z4 : n0 ≤ h4.size := Nat.le_trans Z2 (Keep.of_wr W4).1
  have N4 := Fr.snoc X4 N2 g2
  refine Goes.via (next := T4.setTop (mkF m 32 #[sr a1, si (1 : Int32), sr a2, si (1 : Int32), si (4 : Int32), si (1 : Int32), si c1] [])) st4 ?_
  refine Goes.via (next := T4.setTop (mkF m 7 #[sr a1, si (2 : Int32), sr a2, si (2 : Int32), si (4 : Int32), si (2 : Int32), si c1] [(.int (4 : Int32)), (.int (2 : Int32))])) (fun t k => XS.iinc X4.here hx rfl (hb hby d6_32) rfl (l' := #[sr a1, si (2 : Int32), sr a2, si (1 : Int32), si (4 : Int32), si (1 : Int32), si c1]) rfl (XS.iinc X4.here hx rfl (hb hby d6_35) rfl (l' := #[sr a1, si (2 : Int32), sr a2, si (2 : Int32), si (4 : Int32), si (1 : Int32), si c1]) rfl (XS.iinc X4.here hx rfl (hb hby d6_38) rfl (l' := #[sr a1, si (2 : Int32), sr a2, si (2 : Int32), si (4 : Int32), si (2 : Int32), si c1]) rfl (XS.goto X4.here hx rfl (pc0 := 41) (pc' := 3) rfl (hb hby d6_41) (by decide) (by decide) (XS.iload X4.here hx rfl (hb hby d6_3) rfl (XS.iload X4.here hx rfl (hb hby d6_5) rfl k)))))) ?_
  refine Goes.via (next := T4.setTop (mkF m 10 #[sr a1, si (2 : Int32), sr a2, si (2 : Int32), si (4 : Int32), si (2 : Int32), si c1] [])) (fun t k => XS.icmpNo X4.here hx rfl (hb hby d6_7) rfl (tlt (show (2 : Int32) < (4 : Int32) from (by decide))).2.1 k) ?_
  refine Goes.via (next := T4.setTop (mkF m 12 #[sr a1, si (2 : Int32), sr a2, si (2 : Int32), si (4 : Int32), si (2 : Int32), si c1] [(.int (2 : Int32)), (.ref a1)])) (fun t k => XS.aloadN X4.here hx rfl (hb hby d6_10) rfl rfl (XS.iloadN X4.here hx rfl (hb hby d6_11) rfl k)) ?_
  obtain ⟨cl5, Ar5, qa5, Sa5, Na5, Ha5, Ga5⟩ := id F4_32
  have hin5 : ¬ ((2 : Int32) < 0 ∨ cl5.slots.size ≤ ((2 : Int32)).toNatClampNeg) := inb_of Sa5 ⟨by decide, by decide⟩
  have hat5 : cl5.slots[((2 : Int32)).toNatClampNeg]? = some (.int c2) := Ha5.at hin5 rfl
  refine Goes.via (next := T4.setTop (mkF m 13 #[sr a1, si (2 : Int32), sr a2, si (2 : Int32), si (4 : Int32), si (2 : Int32), si c1] [(.int c2)])) (fun t k => X4.caload hx (j := (2 : Int32)) (v := (.int c2)) (by rw [e4]; exact Ar5.1) (State.isArrayOf_alike hZ.alike Ar5.2.1) Ar5.2.2 hin5 hat5 (g := (mkF m 12 #[sr a1, si (2 : Int32), sr a2, si (2 : Int32), si (4 : Int32), si (2 : Int32), si c1] [(.int (2 : Int32)), (.ref a1)])) rfl rfl (hb hby d6_12) _ k) ?_
  refine Goes.via (next := T4.setTop (mkF m 20 #[sr a1, si (2 : Int32), sr a2, si (2 : Int32), si (4 : Int32), si (2 : Int32), si c2] [(.int (255 : Int32)), (.int c2)])) (fun t k => XS.istore X4.here hx rfl (hb hby d6_13) rfl (l' := #[sr a1, si (2 : Int32), sr a2, si (2 : Int32), si (4 : Int32), si (2 : Int32), si c2]) rfl (XS.iload X4.here hx rfl (hb hby d6_15) rfl (XS.sipush X4.here hx rfl (hb hby d6_17) k))) ?_
  refine Goes.via (next := T4.setTop (mkF m 26 #[sr a1, si (2 : Int32), sr a2, si (2 : Int32), si (4 : Int32), si (2 : Int32), si c2] [])) (fun t k => XS.icmpYes X4.here hx rfl (pc0 := 20) (pc' := 26) rfl (hb hby d6_20) rfl (flt hc2).2.2.2 (by decide) (by decide) k) ?_
  refine Goes.via (next := T4.setTop (mkF m 31 #[sr a1, si (2 : Int32), sr a2, si (2 : Int32), si (4 : Int32), si (2 : Int32), si c2] [(.int (c2.toInt8.toInt32)), (.int (2 : Int32)), (.ref a2)])) (fun t k => XS.aloadN X4.here hx rfl (hb hby d6_26) rfl rfl (XS.iloadN X4.here hx rfl (hb hby d6_27) rfl (XS.iload X4.here hx rfl (hb hby d6_28) rfl (XS.i2b X4.here hx rfl (hb hby d6_30) rfl k)))) ?_
  obtain ⟨cl6, Ar6, qa6, Sa6, Na6, Ha6, Ga6⟩ := V4
  have hin6 : ¬ ((2 : Int32) < 0 ∨ cl6.slots.size ≤ ((2 : Int32)).toNatClampNeg) := inb_of Sa6 ⟨by decide, by decide⟩
  obtain ⟨T6, h6, X6, e6, W6, st6⟩ := stB X4 hx hZ e4 Ar6 (j := (2 : Int32)) hin6 (g := (mkF m 31 #[sr a1, si (2 : Int32), sr a2, si (2 : Int32), si (4 : Int32), si (2 : Int32), si c2] [(.int (c2.toInt8.toInt32)), (.int (2 : Int32)), (.ref a2)])) rfl rfl (hb hby d6_31)
  have V6 : Arv Z h6 a2 k2 .byte (4 : Int32) [(.int (nar .byte (c0.toInt8.toInt32))), (.int (nar .byte (c1.toInt8.toInt32))), (.int (nar .byte (c2.toInt8.toInt32))), (.int (0 : Int32))] (.int (0 : Int32)) := Arv.set Ar6 qa6 Sa6 Na6 Ha6 Ga6 (fits_nar_byte _) W6 2 rfl (Nat.le_of_ble_eq_true rfl)
  have F6_51 := F4_32.other W6 (Nat.ne_of_lt lt12)
  have K6 : Keep h0 h6 [a2] := K4.wr W6 (Or.inl (List.mem_of_getElem? (i := 0) rfl))
  have Z6 : n0 ≤ h6.size := Nat.le_trans Z4 (Keep.of_wr W6).1
  have N6 := Fr.snoc X6 N4 g2
  refine Goes.via (next := T6.setTop (mkF m 32 #[sr a1, si (2 : Int32), sr a2, si (2 : Int32), si (4 : Int32), si (2 : Int32), si c2] [])) st6 ?_
  refine Goes.via (next := T6.setTop (mkF m 7 #[sr a1, si (3 : Int32), sr a2, si (3 : Int32), si (4 : Int32), si (3 : Int32), si c2] [(.int (4 : Int32)), (.int (3 : Int32))])) (fun t k => XS.iinc X6.here hx rfl (hb hby d6_32) rfl (l' := #[sr a1, si (3 : Int32), sr a2, si (2 : Int32), si (4 : Int32), si (2 : Int32), si c2]) rfl (XS.iinc X6.here hx rfl (hb hby d6_35) rfl (l' := #[sr a1, si (3 : Int32), sr a2, si (3 : Int32), si (4 : Int32), si (2 : Int32), si c2]) rfl (XS.iinc X6.here hx rfl (hb hby d6_38) rfl (l' := #[sr a1, si (3 : Int32), sr a2, si (3 : Int32), si (4 : Int32), si (3 : Int32), si c2]) rfl (XS.goto X6.here hx rfl (pc0 := 41) (pc' := 3) rfl (hb hby d6_41) (by decide) (by decide) (XS.iload X6.here hx rfl (hb hby d6_3) rfl (XS.iload X6.here hx rfl (hb hby d6_5) rfl k)))))) ?_
  refine Goes.via (next := T6.setTop (mkF m 10 #[sr a1, si (3 : Int32), sr a2, si (3 : Int32), si (4 : Int32), si (3 : Int32), si c2] [])) (fun t k => XS.icmpNo X6.here hx rfl (hb hby d6_7) rfl (tlt (show (3 : Int32) < (4 : Int32) from (by decide))).2.1 k) ?_
  refine Goes.via (next := T6.setTop (mkF m 12 #[sr a1, si (3 : Int32), sr a2, si (3 : Int32), si (4 : Int32), si (3 : Int32), si c2] [(.int (3 : Int32)), (.ref a1)])) (fun t k => XS.aloadN X6.here hx rfl (hb hby d6_10) rfl rfl (XS.iloadN X6.here hx rfl (hb hby d6_11) rfl k)) ?_
  obtain ⟨cl7, Ar7, qa7, Sa7, Na7, Ha7, Ga7⟩ := id F6_51
  have hin7 : ¬ ((3 : Int32) < 0 ∨ cl7.slots.size ≤ ((3 : Int32)).toNatClampNeg) := inb_of Sa7 ⟨by decide, by decide⟩
  have hat7 : cl7.slots[((3 : Int32)).toNatClampNeg]? = some (.int c3) := Ha7.at hin7 rfl
  refine Goes.via (next := T6.setTop (mkF m 13 #[sr a1, si (3 : Int32), sr a2, si (3 : Int32), si (4 : Int32), si (3 : Int32), si c2] [(.int c3)])) (fun t k => X6.caload hx (j := (3 : Int32)) (v := (.int c3)) (by rw [e6]; exact Ar7.1) (State.isArrayOf_alike hZ.alike Ar7.2.1) Ar7.2.2 hin7 hat7 (g := (mkF m 12 #[sr a1, si (3 : Int32), sr a2, si (3 : Int32), si (4 : Int32), si (3 : Int32), si c2] [(.int (3 : Int32)), (.ref a1)])) rfl rfl (hb hby d6_12) _ k) ?_
  refine Goes.via (next := T6.setTop (mkF m 20 #[sr a1, si (3 : Int32), sr a2, si (3 : Int32), si (4 : Int32), si (3 : Int32), si c3] [(.int (255 : Int32)), (.int c3)])) (fun t k => XS.istore X6.here hx rfl (hb hby d6_13) rfl (l' := #[sr a1, si (3 : Int32), sr a2, si (3 : Int32), si (4 : Int32), si (3 : Int32), si c3]) rfl (XS.iload X6.here hx rfl (hb hby d6_15) rfl (XS.sipush X6.here hx rfl (hb hby d6_17) k))) ?_
  refine Goes.via (next := T6.setTop (mkF m 26 #[sr a1, si (3 : Int32), sr a2, si (3 : Int32), si (4 : Int32), si (3 : Int32), si c3] [])) (fun t k => XS.icmpYes X6.here hx rfl (pc0 := 20) (pc' := 26) rfl (hb hby d6_20) rfl (flt hc3).2.2.2 (by decide) (by decide) k) ?_
  refine Goes.via (next := T6.setTop (mkF m 31 #[sr a1, si (3 : Int32), sr a2, si (3 : Int32), si (4 : Int32), si (3 : Int32), si c3] [(.int (c3.toInt8.toInt32)), (.int (3 : Int32)), (.ref a2)])) (fun t k => XS.aloadN X6.here hx rfl (hb hby d6_26) rfl rfl (XS.iloadN X6.here hx rfl (hb hby d6_27) rfl (XS.iload X6.here hx rfl (hb hby d6_28) rfl (XS.i2b X6.here hx rfl (hb hby d6_30) rfl k)))) ?_
  obtain ⟨cl8, Ar8, qa8, Sa8, Na8, Ha8, Ga8⟩ := V6
  have hin8 : ¬ ((3 : Int32) < 0 ∨ cl8.slots.size ≤ ((3 : Int32)).toNatClampNeg) := inb_of Sa8 ⟨by decide, by decide⟩
  obtain ⟨T8, h8, X8, e8, W8, st8⟩ := stB X6 hx hZ e6 Ar8 (j := (3 : Int32)) hin8 (g := (mkF m 31 #[sr a1, si (3 : Int32), sr a2, si (3 : Int32), si (4 : Int32), si (3 : Int32), si c3] [(.int (c3.toInt8.toInt32)), (.int (3 : Int32)), (.ref a2)])) rfl rfl (hb hby d6_31)
  have V8 : Arv Z h8 a2 k2 .byte (4 : Int32) [(.int (nar .byte (c0.toInt8.toInt32))), (.int (nar .byte (c1.toInt8.toInt32))), (.int (nar .byte (c2.toInt8.toInt32))), (.int (nar .byte (c3.toInt8.toInt32)))] (.int (0 : Int32)) := Arv.set Ar8 qa8 Sa8 Na8 Ha8 Ga8 (fits_nar_byte _) W8 3 rfl (Nat.le_of_ble_eq_true rfl)
  have F8_70 := F6_51.other W8 (Nat.ne_of_lt lt12)
  have K8 : Keep h0 h8 [a2] := K6.wr W8 (Or.inl (List.mem_of_getElem? (i := 0) rfl))
  have Z8 : n0 ≤ h8.size := Nat.le_trans Z6 (Keep.of_wr W8).1
  have N8 := Fr.snoc X8 N6 g2
  refine Goes.via (next := T8.setTop (mkF m 32 #[sr a1, si (3 : Int32), sr a2, si (3 : Int32), si (4 : Int32), si (3 : Int32), si c3] [])) st8 ?_
  refine Goes.via (next := T8.setTop (mkF m 7 #[sr a1, si (4 : Int32), sr a2, si (4 : Int32), si (4 : Int32), si (4 : Int32), si c3] [(.int (4 : Int32)), (.int (4 : Int32))])) (fun t k => XS.iinc X8.here hx rfl (hb hby d6_32) rfl (l' := #[sr a1, si (4 : Int32), sr a2, si (3 : Int32), si (4 : Int32), si (3 : Int32), si c3]) rfl (XS.iinc X8.here hx rfl (hb hby d6_35) rfl (l' := #[sr a1, si (4 : Int32), sr a2, si (4 : Int32), si (4 : Int32), si (3 : Int32), si c3]) rfl (XS.iinc X8.here hx rfl (hb hby d6_38) rfl (l' := #[sr a1, si (4 : Int32), sr a2, si (4 : Int32), si (4 : Int32), si (4 : Int32), si c3]) rfl (XS.goto X8.here hx rfl (pc0 := 41) (pc' := 3) rfl (hb hby d6_41) (by decide) (by decide) (XS.iload X8.here hx rfl (hb hby d6_3) rfl (XS.iload X8.here hx rfl (hb hby d6_5) rfl k)))))) ?_
  refine Goes.via (next := T8.setTop (mkF m 44 #[sr a1, si (4 : Int32), sr a2, si (4 : Int32), si (4 : Int32), si (4 : Int32), si c3] [])) (fun t k => XS.icmpYes X8.here hx rfl (pc0 := 7) (pc' := 44) rfl (hb hby d6_7) rfl (flt (show ¬ ((4 : Int32) < (4 : Int32)) from (by decide))).2.1 (by decide) (by decide) k) ?_
  refine Goes.via (next := T8.setTop (mkF m 46 #[sr a1, si (4 : Int32), sr a2, si (4 : Int32), si (4 : Int32), si (4 : Int32), si c3] [(.int (4 : Int32))])) (fun t k => XS.iload X8.here hx rfl (hb hby d6_44) rfl k) ?_
  obtain ⟨fs, hr, hrun, hended, hW, hsame⟩ := X8.leave (v := some (.int (4 : Int32))) (fun h => by rw [Bd.returns] at h; cases h)
  refine ⟨_, _, ?_, hrun, hended, _, _, rfl, ?_, ⟨_, rfl⟩, hW, hsame.mono (by decide) (by decide)⟩
  · exact retI X8 hx Bd.returns (hb hby d6_46) hr
  · show Q6_4 Z a2 k2 c0 c1 c2 c3 h0 n0 _ T8.heap _
    rw [e8]
    exact ⟨rfl, N8, K8, V8⟩
theorem ef_5_4 (m : MethodId) (x0 : Addr) : entryFrame m #[(.ref x0), (.int (0 : Int32)), (.int (4 : Int32))] 6 = mkF m 0 #[.val (.ref x0), .val (.int (0 : Int32)), .val (.int (4 : Int32)), .unset, .unset, .unset] [] := by first | (simp [entryFrame, mkF, argsToLocals, Value.category]; done) | rfl
def Q5_4 (Z : State) (c0 c1 c2 c3 : Int32) (h0 : Heap) (n0 : Nat) (v : Option Value) (h : Heap) (L : List Loc) : Prop := ∃ (t : Addr) (k : ClassId), v = some (.ref t) ∧ Fr n0 L ∧ n0 ≤ t ∧ h0.size ≤ t ∧ Keep h0 h [] ∧ Arv Z h t k .byte (4 : Int32) [(.int (nar .byte (c0.toInt8.toInt32))), (.int (nar .byte (c1.toInt8.toInt32))), (.int (nar .byte (c2.toInt8.toInt32))), (.int (nar .byte (c3.toInt8.toInt32)))] (.int (0 : Int32))
set_option maxRecDepth 65536 in
set_option maxHeartbeats 40000000 in
theorem rm5_4 (l : Launch) (Z : State) (a0 : Array Value) (hw : ∀ d ∈ tables_1, d.before a0 Z = true) (ws : List Jvm.Cond) (a1 : Addr) (k1 : ClassId) (c0 c1 c2 c3 : Int32) (h0 : Heap) (n0 : Nat) (Z0 : n0 ≤ h0.size) (V1 : Arv Z h0 a1 k1 .char (4 : Int32) [(.int c0), (.int c1), (.int c2), (.int c3)] (.int (0 : Int32))) (hc0 : ¬ ((255 : Int32) < c0)) (hc1 : ¬ ((255 : Int32) < c1)) (hc2 : ¬ ((255 : Int32) < c2)) (hc3 : ¬ ((255 : Int32) < c3)) :
    MF l (⟨"java/lang/StringUTF16", "compress", "([CII)[B"⟩ : MethodName) jdk_52_method_16_code 6 (some (.array .byte)) ws ({ frames := 1, cells := 1, slots := 4, locals := 18 } : Room) #[(.ref a1), (.int (0 : Int32)), (.int (4 : Int32))] Z h0 (Q5_4 Z c0 c1 c2 c3 h0 n0) := by
  refine MetFree.of_bodySF (plainFor_of_name pn_0) hisR ?_
  intro p e s m args below meth c s₁ Bd hml0 hP hK
  obtain ⟨rfl, hZ, hh⟩ := hP
  have hx := Bd.exec
  have hby := Bd.bytes
  have hml : c.maxLocals = 6 := hml0
  have hown : s.vm.findClass "java/lang/StringUTF16" = some m.cls := findClass_of_methodNamed Bd.named
  have hnm := (name_of_methodNamed Bd.named Bd.method).1
  have X0 : Stand p l e ({ frames := 1, cells := 1, slots := 4, locals := 18 } : Room) s m #[(.ref a1), (.int (0 : Int32)), (.int (4 : Int32))] below meth c s₁ [] 0 0 := Stand.of_body Bd
  have e0 : s₁.heap = h0 := by rw [← hh, Bd.state]; rfl
  have N0 := Fr.nil n0
  refine Goes.via (next := s₁.setTop (mkF m 0 #[.val (.ref a1), .val (.int (0 : Int32)), .val (.int (4 : Int32)), .unset, .unset, .unset] [])) (fun t k => castTop (ef_5_4 m a1) k) ?_
  refine Goes.via (next := s₁.setTop (mkF m 1 #[sr a1, si (0 : Int32), si (4 : Int32), .unset, .unset, .unset] [(.int (4 : Int32))])) (fun t k => XS.iloadN X0.here hx rfl (hb hby d5_0) rfl k) ?_
  obtain ⟨T1, h1, ka1, X1, e1, E1, A1, st1⟩ := newP X0 hx hZ (Wd hw 23 rfl) e0 (g := (mkF m 1 #[sr a1, si (0 : Int32), si (4 : Int32), .unset, .unset, .unset] [(.int (4 : Int32))])) rfl (hb hby d5_1) rfl (by decide) (cap := 4) (by decide) (by decide) (by decide) (by decide)
  obtain ⟨b1, g1⟩ : ∃ z, z = h0.size := ⟨_, rfl⟩
  rw [← g1] at A1 st1
  have lt_a1_b1 : a1 < b1 := Nat.lt_of_lt_of_le V1.lt (Nat.le_of_eq g1.symm)
  have ge_b1 : n0 ≤ b1 := Nat.le_trans Z0 (Nat.le_of_eq g1.symm)
  have sz_b1 : h0.size ≤ b1 := Nat.le_trans (Keep.refl h0 []).1 (Nat.le_of_eq g1.symm)
  have F1_7 := V1.ext E1
  have K1 : Keep h0 h1 [] := (Keep.refl h0 []).ext E1
  have Z1 : n0 ≤ h1.size := Nat.le_trans Z0 E1.1
  have V1 : Arv Z h1 b1 ka1 .byte (4 : Int32) [(.int (0 : Int32)), (.int (0 : Int32)), (.int (0 : Int32)), (.int (0 : Int32))] (.int (0 : Int32)) := (Arv.new A1 (by decide)).pad (pad_rep [] (.int (0 : Int32)) 4)
  refine Goes.via (next := T1.setTop (mkF m 3 #[sr a1, si (0 : Int32), si (4 : Int32), .unset, .unset, .unset] [(.ref b1)])) st1 ?_
  refine Goes.via (next := T1.setTop (mkF m 9 #[sr a1, si (0 : Int32), si (4 : Int32), sr b1, .unset, .unset] [(.int (4 : Int32)), (.int (0 : Int32)), (.ref b1), (.int (0 : Int32)), (.ref a1)])) (fun t k => XS.astoreN X1.here hx rfl (hb hby d5_3) rfl rfl (l' := #[sr a1, si (0 : Int32), si (4 : Int32), sr b1, .unset, .unset]) rfl (XS.aloadN X1.here hx rfl (hb hby d5_4) rfl rfl (XS.iloadN X1.here hx rfl (hb hby d5_5) rfl (XS.aloadN X1.here hx rfl (hb hby d5_6) rfl rfl (XS.iconst X1.here hx rfl (hb hby d5_7) (XS.iloadN X1.here hx rfl (hb hby d5_8) rfl k)))))) ?_
  obtain ⟨_, _, ⟨T2, L2, k2, n2⟩, -, X2, ⟨Lc2, hQ2, l2, y2, z2⟩, st2⟩ := Jvm.LawKit.callS X1 hx (y := (⟨"java/lang/StringUTF16", "compress", "([CI[BII)I"⟩ : MethodName)) hown (mvT hZ (Wd hw 24 rfl)) (mvT hZ (Wd hw 25 rfl)) (mvT hZ (Wd hw 21 rfl)) (mvT hZ (Wd hw 26 rfl)) (by decide) (backOf (W := 0) (rm6_4 l Z a0 hw [] a1 b1 k1 ka1 c0 c1 c2 c3 h1 n0 Z1 F1_7 V1 ge_b1 lt_a1_b1 hc0 hc1 hc2 hc3) hZ (Wd hw 26 rfl) (Wd hw 21 rfl) (by decide) (by decide)) (g := (mkF m 9 #[sr a1, si (0 : Int32), si (4 : Int32), sr b1, .unset, .unset] [(.int (4 : Int32)), (.int (0 : Int32)), (.ref b1), (.int (0 : Int32)), (.ref a1)])) rfl (by rw [hml]; rfl) (argsL := [(.ref a1), (.int (0 : Int32)), (.ref b1), (.int (0 : Int32)), (.int (4 : Int32))]) (rest := []) (lenOf pd_0 rfl) rfl (by show 2 * 0 + _ ≤ _; exact Nat.le_of_eq rfl) (hb hby d5_9) (fun _ _ => ⟨rfl, e1, (by decide : 1 + 0 ≤ _), (by decide : 4 + 0 ≤ _)⟩)
  dsimp only [Pt.U, Pt.locs, Pt.cells, Pt.slots] at X2 l2 y2 z2 st2 hQ2
  subst l2 y2 z2
  obtain ⟨rfl, N2q, Kc2, Vc2⟩ := hQ2
  have F2_17 := F1_7.keep Kc2 (fun q => (Nat.ne_of_lt lt_a1_b1) (List.mem_singleton.mp q))
  have K2 : Keep h0 T2.heap [] := K1.trans Kc2 (fun x hx => by cases List.mem_singleton.mp hx; exact Or.inr sz_b1)
  have Z2 : n0 ≤ T2.heap.size := Nat.le_trans Z1 Kc2.1
  have N2 := Fr.app N0 N2q
  refine Goes.via (next := T2.setTop (mkF m 12 #[sr a1, si (0 : Int32), si (4 : Int32), sr b1, .unset, .unset] [(.int (4 : Int32))])) st2 ?_
  refine Goes.via (next := T2.setTop (mkF m 58 #[sr a1, si (0 : Int32), si (4 : Int32), sr b1, si (4 : Int32), .unset] [(.ref b1)])) (fun t k => XS.istore X2.here hx rfl (hb hby d5_12) rfl (l' := #[sr a1, si (0 : Int32), si (4 : Int32), sr b1, si (4 : Int32), .unset]) rfl (XS.iload X2.here hx rfl (hb hby d5_14) rfl (XS.iloadN X2.here hx rfl (hb hby d5_16) rfl (XS.icmpYes X2.here hx rfl (pc0 := 17) (pc' := 57) rfl (hb hby d5_17) rfl (teq (show (4 : Int32) = (4 : Int32) from rfl)).1 (by decide) (by decide) (XS.aloadN X2.here hx rfl (hb hby d5_57) rfl rfl k))))) ?_
  obtain ⟨fs, hr, hrun, hended, hW, hsame⟩ := X2.leave (v := some (.ref b1)) (fun h => by rw [Bd.returns] at h; cases h)
  refine ⟨_, _, ?_, hrun, hended, _, _, rfl, ?_, ⟨_, rfl⟩, hW, hsame.mono (by decide) (by decide)⟩
  · exact retOut X2 hx (t := (.array .byte)) Bd.returns rfl (Or.inr (Or.inr (Or.inr (Or.inr ⟨rfl, rfl, rfl⟩)))) (hb hby d5_58) hr
  · exact ⟨b1, _, rfl, N2, ge_b1, sz_b1, K2, Vc2⟩
theorem ef_7_4 (m : MethodId) (x0 : Addr) : entryFrame m #[(.ref x0), (.int (4 : Int32))] 2 = mkF m 0 #[.val (.ref x0), .val (.int (4 : Int32))] [] := by first | (simp [entryFrame, mkF, argsToLocals, Value.category]; done) | rfl
def Q7_4 (Z : State) (h0 : Heap) (n0 : Nat) (v : Option Value) (h : Heap) (L : List Loc) : Prop := v = some (.int (0 : Int32)) ∧ Fr n0 L ∧ h = h0
set_option maxRecDepth 65536 in
set_option maxHeartbeats 40000000 in
theorem rm7_4 (l : Launch) (Z : State) (a0 : Array Value) (hw : ∀ d ∈ tables_1, d.before a0 Z = true) (ws : List Jvm.Cond) (a1 : Addr) (k1 : ClassId) (vs : List Value) (h0 : Heap) (n0 : Nat) (Z0 : n0 ≤ h0.size) (V1 : Arv Z h0 a1 k1 .byte (4 : Int32) vs (.int (0 : Int32))) :
    MF l (⟨"java/lang/StringUTF16", "coderFromArrayLen", "([BI)B"⟩ : MethodName) jdk_52_method_15_code 2 (some .byte) ws ({ frames := 0, cells := 0, slots := 0, locals := 0 } : Room) #[(.ref a1), (.int (4 : Int32))] Z h0 (Q7_4 Z  h0 n0) := by
  refine MetFree.of_bodySF (plainFor_of_name pn_0) hisR ?_
  intro p e s m args below meth c s₁ Bd hml0 hP hK
  obtain ⟨rfl, hZ, hh⟩ := hP
  have hx := Bd.exec
  have hby := Bd.bytes
  have hml : c.maxLocals = 2 := hml0
  have hown : s.vm.findClass "java/lang/StringUTF16" = some m.cls := findClass_of_methodNamed Bd.named
  have hnm := (name_of_methodNamed Bd.named Bd.method).1
  have X0 : Stand p l e ({ frames := 0, cells := 0, slots := 0, locals := 0 } : Room) s m #[(.ref a1), (.int (4 : Int32))] below meth c s₁ [] 0 0 := Stand.of_body Bd
  have e0 : s₁.heap = h0 := by rw [← hh, Bd.state]; rfl
  have N0 := Fr.nil n0
  refine Goes.via (next := s₁.setTop (mkF m 0 #[.val (.ref a1), .val (.int (4 : Int32))] [])) (fun t k => castTop (ef_7_4 m a1) k) ?_
  refine Goes.via (next := s₁.setTop (mkF m 2 #[sr a1, si (4 : Int32)] [(.ref a1), (.int (4 : Int32))])) (fun t k => XS.iloadN X0.here hx rfl (hb hby d7_0) rfl (XS.aloadN X0.here hx rfl (hb hby d7_1) rfl rfl k)) ?_
  obtain ⟨cl1, Ar1, -, Sa1, Na1, -, -⟩ := id V1
  refine Goes.via (next := s₁.setTop (mkF m 3 #[sr a1, si (4 : Int32)] [(.int (4 : Int32)), (.int (4 : Int32))])) (fun t k => X0.arraylength hx (by rw [e0]; exact Ar1.1) (State.isArrayOf_alike hZ.alike Ar1.2.1) (g := (mkF m 2 #[sr a1, si (4 : Int32)] [(.ref a1), (.int (4 : Int32))])) rfl rfl (hb hby d7_2) _ (by rw [len_of Sa1 Na1]; exact k)) ?_
  refine Goes.via (next := s₁.setTop (mkF m 8 #[sr a1, si (4 : Int32)] [(.int (0 : Int32))])) (fun t k => XS.isub X0.here hx rfl (hb hby d7_3) rfl (XS.bipush X0.here hx rfl (hb hby d7_4) (XS.iushr X0.here hx rfl (hb hby d7_6) rfl (XS.i2b X0.here hx rfl (hb hby d7_7) rfl k)))) ?_
  obtain ⟨fs, hr, hrun, hended, hW, hsame⟩ := X0.leave (v := some (.int (0 : Int32))) (fun h => by rw [Bd.returns] at h; cases h)
  refine ⟨_, _, ?_, hrun, hended, _, _, rfl, ?_, ⟨_, rfl⟩, hW, hsame.mono (by decide) (by decide)⟩
  · exact retN X0 hx (t := .byte) Bd.returns (by simp) (hb hby d7_8) hr
  · show Q7_4 Z  h0 n0 _ s₁.heap _
    rw [e0]
    exact ⟨rfl, N0, rfl⟩
theorem ef_3_4 (m : MethodId) (x0 : Addr) (x1 : Addr) : entryFrame m #[(.ref x0), (.ref x1), (.int (0 : Int32)), (.int (4 : Int32)), .null] 6 = mkF m 0 #[.val (.ref x0), .val (.ref x1), .val (.int (0 : Int32)), .val (.int (4 : Int32)), .val .null, .unset] [] := by first | (simp [entryFrame, mkF, argsToLocals, Value.category]; done) | rfl
def Q3_4 (Z : State) (a1 : Addr) (c0 c1 c2 c3 : Int32) (h0 : Heap) (n0 : Nat) (v : Option Value) (h : Heap) (L : List Loc) : Prop := v = none ∧ Fr n0 L ∧ Keep h0 h [a1] ∧ Exa Z h a1 "java/lang/String" ∧ Fld Z h a1 "java/lang/String" "coder" "B" (.int (0 : Int32)) ∧ ∃ (t : Addr) (k : ClassId), n0 ≤ t ∧ h0.size ≤ t ∧ Fld Z h a1 "java/lang/String" "value" "[B" (.ref t) ∧ Arv Z h t k .byte (4 : Int32) [(.int (nar .byte (c0.toInt8.toInt32))), (.int (nar .byte (c1.toInt8.toInt32))), (.int (nar .byte (c2.toInt8.toInt32))), (.int (nar .byte (c3.toInt8.toInt32)))] (.int (0 : Int32))
set_option maxRecDepth 65536 in
set_option maxHeartbeats 40000000 in
theorem rm3_4 (l : Launch) (Z : State) (a0 : Array Value) (hw : ∀ d ∈ tables_1, d.before a0 Z = true) (ws : List Jvm.Cond) (a1 : Addr) (a2 : Addr) (k2 : ClassId) (c0 c1 c2 c3 : Int32) (w0 : Int32) (rE rL eL : Addr) (kL : ClassId) (nZ : Nat) (h0 : Heap) (n0 : Nat) (Z0 : n0 ≤ h0.size) (E1 : Exa Z h0 a1 "java/lang/String") (Fv : Fld Z h0 a1 "java/lang/String" "value" "[B" .null) (Fc : Fld Z h0 a1 "java/lang/String" "coder" "B" (.int (0 : Int32))) (V2 : Arv Z h0 a2 k2 .char (4 : Int32) [(.int c0), (.int c1), (.int c2), (.int c3)] (.int (0 : Int32))) (g1 : n0 ≤ a1) (ne12 : a1 ≠ a2) (O0 : Old Z nZ h0) (hz : nZ ≤ n0) (St : own_St Z w0 rE rL eL kL) (hc0 : ¬ ((255 : Int32) < c0)) (hc1 : ¬ ((255 : Int32) < c1)) (hc2 : ¬ ((255 : Int32) < c2)) (hc3 : ¬ ((255 : Int32) < c3)) :
    MF l (⟨"java/lang/String", "<init>", "([CIILjava/lang/Void;)V"⟩ : MethodName) jdk_42_method_149_code 6 none ws ({ frames := 2, cells := 1, slots := 4, locals := 35 } : Room) #[(.ref a1), (.ref a2), (.int (0 : Int32)), (.int (4 : Int32)), .null] Z h0 (Q3_4 Z a1 c0 c1 c2 c3 h0 n0) := by
  refine MetFree.of_bodySF (plainFor_of_name pn_1) hisR ?_
  intro p e s m args below meth c s₁ Bd hml0 hP hK
  obtain ⟨rfl, hZ, hh⟩ := hP
  have hx := Bd.exec
  have hby := Bd.bytes
  have hml : c.maxLocals = 6 := hml0
  have hown : s.vm.findClass "java/lang/String" = some m.cls := findClass_of_methodNamed Bd.named
  have hnm := (name_of_methodNamed Bd.named Bd.method).1
  have X0 : Stand p l e ({ frames := 2, cells := 1, slots := 4, locals := 35 } : Room) s m #[(.ref a1), (.ref a2), (.int (0 : Int32)), (.int (4 : Int32)), .null] below meth c s₁ [] 0 0 := Stand.of_body Bd
  have e0 : s₁.heap = h0 := by rw [← hh, Bd.state]; rfl
  have N0 := Fr.nil n0
  refine Goes.via (next := s₁.setTop (mkF m 0 #[.val (.ref a1), .val (.ref a2), .val (.int (0 : Int32)), .val (.int (4 : Int32)), .val .null, .unset] [])) (fun t k => castTop (ef_3_4 m a1 a2) k) ?_
  refine Goes.via (next := s₁.setTop (mkF m 1 #[sr a1, sr a2, si (0 : Int32), si (4 : Int32), .val .null, .unset] [(.ref a1)])) (fun t k => XS.aloadN X0.here hx rfl (hb hby d3_0) rfl rfl k) ?_
  obtain ⟨T1, X1, e1, st1⟩ := initO X0 hx hZ hown (Wd hw 15 rfl) (Wd hw 16 rfl) (Wd hw 17 rfl) e0 (g := (mkF m 1 #[sr a1, sr a2, si (0 : Int32), si (4 : Int32), .val .null, .unset] [(.ref a1)])) rfl (by rw [hml]; rfl) rfl (hb hby d3_1) (by decide) (W := 0) (by show 2 * 0 + _ ≤ _; exact Nat.le_of_eq rfl) (by decide)
  refine Goes.via (next := T1.setTop (mkF m 4 #[sr a1, sr a2, si (0 : Int32), si (4 : Int32), .val .null, .unset] [])) st1 ?_
  refine Goes.via (next := T1.setTop (mkF m 27 #[sr a1, sr a2, si (0 : Int32), si (4 : Int32), .val .null, .unset] [])) (fun t k => XS.iloadN X1.here hx rfl (hb hby d3_4) rfl (XS.ifYes X1.here hx rfl (pc0 := 5) (pc' := 27) rfl (hb hby d3_5) rfl ((if0 _ _).trans (feq (show ¬ ((4 : Int32) = (0 : Int32)) from (by decide))).2) (by decide) (by decide) k)) ?_
  obtain ⟨T2, X2, e2, st2⟩ := getS2 X1 hx hZ hown (host := "") (Or.inl (Wd hw 18 rfl)) Via.refl e1 (St.1.ext O0.2) (g := (mkF m 27 #[sr a1, sr a2, si (0 : Int32), si (4 : Int32), .val .null, .unset] [])) rfl (hb hby d3_27)
  refine Goes.via (next := T2.setTop (mkF m 30 #[sr a1, sr a2, si (0 : Int32), si (4 : Int32), .val .null, .unset] [(.int w0)])) st2 ?_
  have hc30_3 : ¬ (w0 = (0 : Int32)) := St.2.1
  refine Goes.via (next := T2.setTop (mkF m 33 #[sr a1, sr a2, si (0 : Int32), si (4 : Int32), .val .null, .unset] [])) (fun t k => XS.ifNo X2.here hx rfl (hb hby d3_30) rfl ((if0 _ _).trans (feq hc30_3).1) k) ?_
  refine Goes.via (next := T2.setTop (mkF m 36 #[sr a1, sr a2, si (0 : Int32), si (4 : Int32), .val .null, .unset] [(.int (4 : Int32)), (.int (0 : Int32)), (.ref a2)])) (fun t k => XS.aloadN X2.here hx rfl (hb hby d3_33) rfl rfl (XS.iloadN X2.here hx rfl (hb hby d3_34) rfl (XS.iloadN X2.here hx rfl (hb hby d3_35) rfl k))) ?_
  obtain ⟨_, _, ⟨T4, L4, k4, n4⟩, -, X4, ⟨Lc4, hQ4, l4, y4, z4⟩, st4⟩ := Jvm.LawKit.callS X2 hx (y := (⟨"java/lang/StringUTF16", "compress", "([CII)[B"⟩ : MethodName)) hown (mvT hZ (Wd hw 19 rfl)) (mvT hZ (Wd hw 20 rfl)) (mvT hZ (Wd hw 21 rfl)) (mvT hZ (Wd hw 22 rfl)) (by decide) (backOf (W := 0) (rm5_4 l Z a0 hw [] a2 k2 c0 c1 c2 c3 h0 n0 Z0 V2 hc0 hc1 hc2 hc3) hZ (Wd hw 22 rfl) (Wd hw 21 rfl) (by decide) (by decide)) (g := (mkF m 36 #[sr a1, sr a2, si (0 : Int32), si (4 : Int32), .val .null, .unset] [(.int (4 : Int32)), (.int (0 : Int32)), (.ref a2)])) rfl (by rw [hml]; rfl) (argsL := [(.ref a2), (.int (0 : Int32)), (.int (4 : Int32))]) (rest := []) (lenOf pd_1 rfl) rfl (by show 2 * 0 + _ ≤ _; exact Nat.le_of_eq rfl) (hb hby d3_36) (fun _ _ => ⟨rfl, e2, (by decide : 0 + 1 ≤ _), (by decide : 0 + 4 ≤ _)⟩)
  dsimp only [Pt.U, Pt.locs, Pt.cells, Pt.slots] at X4 l4 y4 z4 st4 hQ4
  subst l4 y4 z4
  obtain ⟨t4, kt4, rfl, N4q, gt4, zt4, Kc4, Vc4⟩ := hQ4
  have lt_a1_t4 : a1 < t4 := Nat.lt_of_lt_of_le E1.lt zt4
  have lt_a2_t4 : a2 < t4 := Nat.lt_of_lt_of_le V2.lt zt4
  have sz_t4 : h0.size ≤ t4 := Nat.le_trans (Keep.refl h0 [a1]).1 zt4
  have F4_16 := E1.keep Kc4
  have F4_17 := Fv.keep Kc4 List.not_mem_nil
  have F4_18 := Fc.keep Kc4 List.not_mem_nil
  have F4_19 := V2.keep Kc4 List.not_mem_nil
  have K4 : Keep h0 T4.heap [a1] := (Keep.refl h0 [a1]).trans Kc4 (fun x hx => nomatch hx)
  have Z4 : n0 ≤ T4.heap.size := Nat.le_trans Z0 Kc4.1
  have O4 := O0.keep Kc4 (fun x hx => nomatch hx)
  have N4 := Fr.app N0 N4q
  refine Goes.via (next := T4.setTop (mkF m 39 #[sr a1, sr a2, si (0 : Int32), si (4 : Int32), .val .null, .unset] [(.ref t4)])) st4 ?_
  refine Goes.via (next := T4.setTop (mkF m 45 #[sr a1, sr a2, si (0 : Int32), si (4 : Int32), .val .null, sr t4] [(.int (4 : Int32)), (.ref t4), (.ref a1)])) (fun t k => XS.astore X4.here hx rfl (hb hby d3_39) rfl rfl (l' := #[sr a1, sr a2, si (0 : Int32), si (4 : Int32), .val .null, sr t4]) rfl (XS.aloadN X4.here hx rfl (hb hby d3_41) rfl rfl (XS.aload X4.here hx rfl (hb hby d3_42) rfl rfl (XS.iloadN X4.here hx rfl (hb hby d3_44) rfl k)))) ?_
  obtain ⟨Lw5, X5w, N5w⟩ := ownPack X4 N4
  obtain ⟨_, _, ⟨T6, L6, k6, n6⟩, -, X6, ⟨Lc6, hQ6, l6, y6, z6⟩, st6⟩ := Jvm.LawKit.callS X5w hx (y := (⟨"java/lang/StringUTF16", "coderFromArrayLen", "([BI)B"⟩ : MethodName)) hown (mvT hZ (Wd hw 27 rfl)) (mvT hZ (Wd hw 28 rfl)) (mvT hZ (Wd hw 21 rfl)) (mvT hZ (Wd hw 29 rfl)) (by decide) (backOf (W := 1) (rm7_4 l Z a0 hw [] t4 kt4 _ T4.heap n0 Z4 Vc4) hZ (Wd hw 29 rfl) (Wd hw 21 rfl) (by decide) (by decide)) (g := (mkF m 45 #[sr a1, sr a2, si (0 : Int32), si (4 : Int32), .val .null, sr t4] [(.int (4 : Int32)), (.ref t4), (.ref a1)])) rfl (by rw [hml]; rfl) (argsL := [(.ref t4), (.int (4 : Int32))]) (rest := [(.ref a1)]) (lenOf pd_2 rfl) rfl (by show 2 * 0 + _ ≤ _; exact Nat.le_of_eq rfl) (hb hby d3_45) (fun _ _ => ⟨rfl, rfl, (by decide : 1 + 0 ≤ _), (by decide : 4 + 0 ≤ _)⟩)
  dsimp only [Pt.U, Pt.locs, Pt.cells, Pt.slots] at X6 l6 y6 z6 st6 hQ6
  subst l6 y6 z6
  obtain ⟨rfl, N6q, er6⟩ := hQ6
  have e6 : T6.heap = T4.heap := er6
  have N6 := Fr.app N5w N6q
  refine Goes.via (next := T6.setTop (mkF m 48 #[sr a1, sr a2, si (0 : Int32), si (4 : Int32), .val .null, sr t4] [(.int (0 : Int32)), (.ref a1)])) st6 ?_
  obtain ⟨T7, h7, X7, e7, W7, st7⟩ := putFN X6 hx hZ hown (Wd hw 30 rfl) Via.refl e6 F4_18 F4_16 (Or.inr ⟨(Wd hw 31 rfl), rfl, hnm⟩) (Wd hw 5 rfl) (ty := .byte) (v' := (.int (0 : Int32))) (by decide) rfl (by decide) (g := (mkF m 48 #[sr a1, sr a2, si (0 : Int32), si (4 : Int32), .val .null, sr t4] [(.int (0 : Int32)), (.ref a1)])) rfl rfl (hb hby d3_48)
  have Fw7 := F4_18.same W7
  have F7_36 := F4_16.wr W7
  have F7_37 := F4_17.other W7 (Or.inr (slot_ne (Or.inr (Wd hw 33 rfl)) (Or.inr (Wd hw 31 rfl)) (by decide) (t := (.array .byte)) (t' := .byte) (by decide) (by decide)))
  have F7_38 := F4_19.other W7 (Ne.symm ne12)
  have F7_39 := Vc4.other W7 (Nat.ne_of_gt lt_a1_t4)
  have K7 : Keep h0 h7 [a1] := K4.wr W7 (Or.inl (List.mem_of_getElem? (i := 0) rfl))
  have Z7 : n0 ≤ h7.size := Nat.le_trans Z4 (Keep.of_wr W7).1
  have N7 := Fr.snoc X7 N6 g1
  have O7 := O4.wr W7 (Nat.le_trans hz g1)
  refine Goes.via (next := T7.setTop (mkF m 51 #[sr a1, sr a2, si (0 : Int32), si (4 : Int32), .val .null, sr t4] [])) st7 ?_
  refine Goes.via (next := T7.setTop (mkF m 54 #[sr a1, sr a2, si (0 : Int32), si (4 : Int32), .val .null, sr t4] [(.ref t4), (.ref a1)])) (fun t k => XS.aloadN X7.here hx rfl (hb hby d3_51) rfl rfl (XS.aload X7.here hx rfl (hb hby d3_52) rfl rfl k)) ?_
  obtain ⟨T8, h8, X8, e8, W8, st8⟩ := putF X7 hx hZ hown (host := "") (Or.inl (Wd hw 32 rfl)) Via.refl e7 F7_37 F7_36 (Or.inr ⟨(Wd hw 33 rfl), rfl, hnm⟩) (Wd hw 5 rfl) (ty := (.array .byte)) (by decide) rfl rfl (g := (mkF m 54 #[sr a1, sr a2, si (0 : Int32), si (4 : Int32), .val .null, sr t4] [(.ref t4), (.ref a1)])) rfl rfl (hb hby d3_54)
  have Fw8 := F7_37.same W8
  have F8_48 := F7_36.wr W8
  have F8_49 := F7_38.other W8 (Ne.symm ne12)
  have F8_50 := F7_39.other W8 (Nat.ne_of_gt lt_a1_t4)
  have F8_51 := Fw7.other W8 (Or.inr (slot_ne (Or.inr (Wd hw 31 rfl)) (Or.inr (Wd hw 33 rfl)) (by decide) (t := .byte) (t' := (.array .byte)) (by decide) (by decide)))
  have K8 : Keep h0 h8 [a1] := K7.wr W8 (Or.inl (List.mem_of_getElem? (i := 0) rfl))
  have Z8 : n0 ≤ h8.size := Nat.le_trans Z7 (Keep.of_wr W8).1
  have N8 := Fr.snoc X8 N7 g1
  have O8 := O7.wr W8 (Nat.le_trans hz g1)
  refine Goes.via (next := T8.setTop (mkF m 57 #[sr a1, sr a2, si (0 : Int32), si (4 : Int32), .val .null, sr t4] [])) st8 ?_
  obtain ⟨fs, hr, hrun, hended, hW, hsame⟩ := X8.leave (v := none) (fun _ => rfl)
  refine ⟨_, _, ?_, hrun, hended, _, _, rfl, ?_, ⟨_, rfl⟩, hW, hsame.mono (by decide) (by decide)⟩
  · exact X8.returnOut hx Bd.returns (hb hby d3_57) hr
  · show Q3_4 Z a1 c0 c1 c2 c3 h0 n0 _ T8.heap _
    rw [e8]
    exact ⟨rfl, N8, K8, F8_48, F8_51, t4, _, gt4, sz_t4, Fw8, F8_50⟩
theorem ef_2_4 (m : MethodId) (x0 : Addr) (x1 : Addr) : entryFrame m #[(.ref x0), (.ref x1)] 2 = mkF m 0 #[.val (.ref x0), .val (.ref x1)] [] := by first | (simp [entryFrame, mkF, argsToLocals, Value.category]; done) | rfl
def Q2_4 (Z : State) (a1 : Addr) (c0 c1 c2 c3 : Int32) (h0 : Heap) (n0 : Nat) (v : Option Value) (h : Heap) (L : List Loc) : Prop := v = none ∧ Fr n0 L ∧ Keep h0 h [a1] ∧ Exa Z h a1 "java/lang/String" ∧ Fld Z h a1 "java/lang/String" "coder" "B" (.int (0 : Int32)) ∧ ∃ (t : Addr) (k : ClassId), n0 ≤ t ∧ h0.size ≤ t ∧ Fld Z h a1 "java/lang/String" "value" "[B" (.ref t) ∧ Arv Z h t k .byte (4 : Int32) [(.int (nar .byte (c0.toInt8.toInt32))), (.int (nar .byte (c1.toInt8.toInt32))), (.int (nar .byte (c2.toInt8.toInt32))), (.int (nar .byte (c3.toInt8.toInt32)))] (.int (0 : Int32))
set_option maxRecDepth 65536 in
set_option maxHeartbeats 40000000 in
theorem rm2_4 (l : Launch) (Z : State) (a0 : Array Value) (hw : ∀ d ∈ tables_1, d.before a0 Z = true) (ws : List Jvm.Cond) (a1 : Addr) (a2 : Addr) (k2 : ClassId) (c0 c1 c2 c3 : Int32) (w0 : Int32) (rE rL eL : Addr) (kL : ClassId) (nZ : Nat) (h0 : Heap) (n0 : Nat) (Z0 : n0 ≤ h0.size) (E1 : Exa Z h0 a1 "java/lang/String") (Fv : Fld Z h0 a1 "java/lang/String" "value" "[B" .null) (Fc : Fld Z h0 a1 "java/lang/String" "coder" "B" (.int (0 : Int32))) (V2 : Arv Z h0 a2 k2 .char (4 : Int32) [(.int c0), (.int c1), (.int c2), (.int c3)] (.int (0 : Int32))) (g1 : n0 ≤ a1) (ne12 : a1 ≠ a2) (O0 : Old Z nZ h0) (hz : nZ ≤ n0) (St : own_St Z w0 rE rL eL kL) (hc0 : ¬ ((255 : Int32) < c0)) (hc1 : ¬ ((255 : Int32) < c1)) (hc2 : ¬ ((255 : Int32) < c2)) (hc3 : ¬ ((255 : Int32) < c3)) :
    MF l (⟨"java/lang/String", "<init>", "([C)V"⟩ : MethodName) jdk_42_method_3_code 2 none ws ({ frames := 3, cells := 1, slots := 4, locals := 52 } : Room) #[(.ref a1), (.ref a2)] Z h0 (Q2_4 Z a1 c0 c1 c2 c3 h0 n0) := by
  refine MetFree.of_bodySF (plainFor_of_name pn_1) hisR ?_
  intro p e s m args below meth c s₁ Bd hml0 hP hK
  obtain ⟨rfl, hZ, hh⟩ := hP
  have hx := Bd.exec
  have hby := Bd.bytes
  have hml : c.maxLocals = 2 := hml0
  have hown : s.vm.findClass "java/lang/String" = some m.cls := findClass_of_methodNamed Bd.named
  have hnm := (name_of_methodNamed Bd.named Bd.method).1
  have X0 : Stand p l e ({ frames := 3, cells := 1, slots := 4, locals := 52 } : Room) s m #[(.ref a1), (.ref a2)] below meth c s₁ [] 0 0 := Stand.of_body Bd
  have e0 : s₁.heap = h0 := by rw [← hh, Bd.state]; rfl
  have N0 := Fr.nil n0
  refine Goes.via (next := s₁.setTop (mkF m 0 #[.val (.ref a1), .val (.ref a2)] [])) (fun t k => castTop (ef_2_4 m a1 a2) k) ?_
  refine Goes.via (next := s₁.setTop (mkF m 4 #[sr a1, sr a2] [(.ref a2), (.int (0 : Int32)), (.ref a2), (.ref a1)])) (fun t k => XS.aloadN X0.here hx rfl (hb hby d2_0) rfl rfl (XS.aloadN X0.here hx rfl (hb hby d2_1) rfl rfl (XS.iconst X0.here hx rfl (hb hby d2_2) (XS.aloadN X0.here hx rfl (hb hby d2_3) rfl rfl k)))) ?_
  obtain ⟨cl1, Ar1, -, Sa1, Na1, -, -⟩ := id V2
  refine Goes.via (next := s₁.setTop (mkF m 5 #[sr a1, sr a2] [(.int (4 : Int32)), (.int (0 : Int32)), (.ref a2), (.ref a1)])) (fun t k => X0.arraylength hx (by rw [e0]; exact Ar1.1) (State.isArrayOf_alike hZ.alike Ar1.2.1) (g := (mkF m 4 #[sr a1, sr a2] [(.ref a2), (.int (0 : Int32)), (.ref a2), (.ref a1)])) rfl rfl (hb hby d2_4) _ (by rw [len_of Sa1 Na1]; exact k)) ?_
  refine Goes.via (next := s₁.setTop (mkF m 6 #[sr a1, sr a2] [.null, (.int (4 : Int32)), (.int (0 : Int32)), (.ref a2), (.ref a1)])) (fun t k => XS.aconstNull X0.here hx rfl (hb hby d2_5) k) ?_
  obtain ⟨_, _, ⟨T2, L2, k2, n2⟩, -, X2, ⟨Lc2, hQ2, l2, y2, z2⟩, st2⟩ := X0.specialBack hx (y := (⟨"java/lang/String", "<init>", "([CIILjava/lang/Void;)V"⟩ : MethodName)) rfl hown (mvT hZ (Wd hw 11 rfl)) (mvT hZ (Wd hw 12 rfl)) (mvT hZ (Wd hw 14 rfl)) (by decide) (backOf (W := 0) (rm3_4 l Z a0 hw [] a1 a2 k2 c0 c1 c2 c3 w0 rE rL eL kL nZ h0 n0 Z0 E1 Fv Fc V2 g1 ne12 O0 hz St hc0 hc1 hc2 hc3) hZ (Wd hw 14 rfl) (Wd hw 6 rfl) (by decide) (by decide)) (g := (mkF m 6 #[sr a1, sr a2] [.null, (.int (4 : Int32)), (.int (0 : Int32)), (.ref a2), (.ref a1)])) rfl (by rw [hml]; rfl) (Steps.refl _) (a := a1) (argsL := [(.ref a2), (.int (0 : Int32)), (.int (4 : Int32)), .null]) (rest := []) (lenOf pd_3 rfl) rfl (by show 2 * 0 + _ ≤ _; exact Nat.le_of_eq rfl) (hb hby d2_6) (fun _ _ => ⟨rfl, e0, (by decide : 0 + 1 ≤ _), (by decide : 0 + 4 ≤ _)⟩)
  dsimp only [Pt.U, Pt.locs, Pt.cells, Pt.slots] at X2 l2 y2 z2 st2 hQ2
  subst l2 y2 z2
  obtain ⟨rfl, N2q, Kc2, Ec2, Cc2, t2, kt2, gt2, zt2, Vq2, Vc2⟩ := hQ2
  have lt_a1_t2 : a1 < t2 := Nat.lt_of_lt_of_le E1.lt zt2
  have lt_a2_t2 : a2 < t2 := Nat.lt_of_lt_of_le V2.lt zt2
  have sz_t2 : h0.size ≤ t2 := Nat.le_trans (Keep.refl h0 [a1]).1 zt2
  have F2_11 := E1.keep Kc2
  have F2_12 := V2.keep Kc2 (fun q => (Ne.symm ne12) (List.mem_singleton.mp q))
  have K2 : Keep h0 T2.heap [a1] := (Keep.refl h0 [a1]).trans Kc2 (fun x hx => by cases List.mem_singleton.mp hx; exact Or.inl (List.mem_of_getElem? (i := 0) rfl))
  have Z2 : n0 ≤ T2.heap.size := Nat.le_trans Z0 Kc2.1
  have O2 := O0.keep Kc2 (fun x hx => by cases List.mem_singleton.mp hx; exact (Nat.le_trans hz g1))
  have N2 := Fr.app N0 N2q
  refine Goes.via (next := T2.setTop (mkF m 9 #[sr a1, sr a2] [])) (fun t k => st2.trans k) ?_
  obtain ⟨fs, hr, hrun, hended, hW, hsame⟩ := X2.leave (v := none) (fun _ => rfl)
  refine ⟨_, _, ?_, hrun, hended, _, _, rfl, ?_, ⟨_, rfl⟩, hW, hsame.mono (by decide) (by decide)⟩
  · exact X2.returnOut hx Bd.returns (hb hby d2_9) hr
  · show Q2_4 Z a1 c0 c1 c2 c3 h0 n0 _ T2.heap _
    exact ⟨rfl, N2, K2, F2_11, Cc2, t2, _, gt2, sz_t2, Vq2, Vc2⟩
theorem d1_0 : decode method_2_code 0 = .ok (.iload_n 0, 1) := by decide +kernel
theorem d1_1 : decode method_2_code 1 = .ok (.sipush 255, 3) := by decide +kernel
theorem d1_4 : decode method_2_code 4 = .ok (.iand, 1) := by decide +kernel
theorem d1_5 : decode method_2_code 5 = .ok (.i2c, 1) := by decide +kernel
theorem d1_6 : decode method_2_code 6 = .ok (.istore_n 1, 1) := by decide +kernel
theorem d1_7 : decode method_2_code 7 = .ok (.iload_n 0, 1) := by decide +kernel
theorem d1_8 : decode method_2_code 8 = .ok (.bipush 8, 2) := by decide +kernel
theorem d1_10 : decode method_2_code 10 = .ok (.iushr, 1) := by decide +kernel
theorem d1_11 : decode method_2_code 11 = .ok (.sipush 255, 3) := by decide +kernel
theorem d1_14 : decode method_2_code 14 = .ok (.iand, 1) := by decide +kernel
theorem d1_15 : decode method_2_code 15 = .ok (.i2c, 1) := by decide +kernel
theorem d1_16 : decode method_2_code 16 = .ok (.istore_n 2, 1) := by decide +kernel
theorem d1_17 : decode method_2_code 17 = .ok (.new 7, 3) := by decide +kernel
theorem d1_20 : decode method_2_code 20 = .ok (.dup, 1) := by decide +kernel
theorem d1_21 : decode method_2_code 21 = .ok (.iconst 2, 1) := by decide +kernel
theorem d1_22 : decode method_2_code 22 = .ok (.newarray .char, 2) := by decide +kernel
theorem d1_24 : decode method_2_code 24 = .ok (.dup, 1) := by decide +kernel
theorem d1_25 : decode method_2_code 25 = .ok (.iconst 0, 1) := by decide +kernel
theorem d1_26 : decode method_2_code 26 = .ok (.iload_n 1, 1) := by decide +kernel
theorem d1_27 : decode method_2_code 27 = .ok (.castore, 1) := by decide +kernel
theorem d1_28 : decode method_2_code 28 = .ok (.dup, 1) := by decide +kernel
theorem d1_29 : decode method_2_code 29 = .ok (.iconst 1, 1) := by decide +kernel
theorem d1_30 : decode method_2_code 30 = .ok (.iload_n 2, 1) := by decide +kernel
theorem d1_31 : decode method_2_code 31 = .ok (.castore, 1) := by decide +kernel
theorem d1_32 : decode method_2_code 32 = .ok (.invokespecial 9, 3) := by decide +kernel
theorem d1_35 : decode method_2_code 35 = .ok (.areturn, 1) := by decide +kernel
theorem pn_2 : plainName "com/example/attributes_to_claims/attributestoclaims/cli/OptionFlagPinLaw" = true := by first | (simp [plainName, overriddenIn]; done) | decide +kernel
theorem pd_4 : parseMethodDescriptor "([C)V" = some ⟨[(.array .char)], none⟩ := by decide +kernel
theorem ef_1 (m : MethodId) (x0 : Int32) : entryFrame m #[(.int x0)] 3 = mkF m 0 #[.val (.int x0), .unset, .unset] [] := by first | (simp [entryFrame, mkF, argsToLocals, Value.category]; done) | rfl
def Q1 (Z : State) (p1 : Int32) (h0 : Heap) (n0 : Nat) (v : Option Value) (h : Heap) (L : List Loc) : Prop := ∃ (r t : Addr) (k : ClassId), v = some (.ref r) ∧ Fr n0 L ∧ n0 ≤ r ∧ h0.size ≤ r ∧ Keep h0 h [] ∧ Exa Z h r "java/lang/String" ∧ Fld Z h r "java/lang/String" "coder" "B" (.int (0 : Int32)) ∧ Fld Z h r "java/lang/String" "value" "[B" (.ref t) ∧ Arv Z h t k .byte (2 : Int32) [(.int (own_b0 p1)), (.int (own_b1 p1))] (.int (0 : Int32))
set_option maxRecDepth 65536 in
set_option maxHeartbeats 40000000 in
theorem rm1 (l : Launch) (Z : State) (a0 : Array Value) (hw : ∀ d ∈ tables_1, d.before a0 Z = true) (ws : List Jvm.Cond) (p1 : Int32) (w0 : Int32) (rE rL eL : Addr) (kL : ClassId) (nZ : Nat) (h0 : Heap) (n0 : Nat) (Z0 : n0 ≤ h0.size) (O0 : Old Z nZ h0) (hz : nZ ≤ n0) (St : own_St Z w0 rE rL eL kL) :
    MF l (⟨"com/example/attributes_to_claims/attributestoclaims/cli/OptionFlagPinLaw", "name", "(I)Ljava/lang/String;"⟩ : MethodName) method_2_code 3 (some (.object "java/lang/String")) ws ({ frames := 4, cells := 3, slots := 8, locals := 66 } : Room) #[(.int p1)] Z h0 (Q1 Z p1 h0 n0) := by
  refine MetFree.of_bodySF (plainFor_of_name pn_2) hisR ?_
  intro p e s m args below meth c s₁ Bd hml0 hP hK
  obtain ⟨rfl, hZ, hh⟩ := hP
  have hx := Bd.exec
  have hby := Bd.bytes
  have hml : c.maxLocals = 3 := hml0
  have hown : s.vm.findClass "com/example/attributes_to_claims/attributestoclaims/cli/OptionFlagPinLaw" = some m.cls := findClass_of_methodNamed Bd.named
  have hnm := (name_of_methodNamed Bd.named Bd.method).1
  have X0 : Stand p l e ({ frames := 4, cells := 3, slots := 8, locals := 66 } : Room) s m #[(.int p1)] below meth c s₁ [] 0 0 := Stand.of_body Bd
  have e0 : s₁.heap = h0 := by rw [← hh, Bd.state]; rfl
  have N0 := Fr.nil n0
  refine Goes.via (next := s₁.setTop (mkF m 0 #[.val (.int p1), .unset, .unset] [])) (fun t k => castTop (ef_1 m p1) k) ?_
  refine Goes.via (next := s₁.setTop (mkF m 8 #[si p1, si ((p1 &&& (255 : Int32)).toUInt32.toUInt16.toUInt32.toInt32), .unset] [(.int p1)])) (fun t k => XS.iloadN X0.here hx rfl (hb hby d1_0) rfl (XS.sipush X0.here hx rfl (hb hby d1_1) (XS.iand X0.here hx rfl (hb hby d1_4) rfl (XS.i2c X0.here hx rfl (hb hby d1_5) rfl (XS.istoreN X0.here hx rfl (hb hby d1_6) rfl (l' := #[si p1, si ((p1 &&& (255 : Int32)).toUInt32.toUInt16.toUInt32.toInt32), .unset]) rfl (XS.iloadN X0.here hx rfl (hb hby d1_7) rfl k)))))) ?_
  refine Goes.via (next := s₁.setTop (mkF m 17 #[si p1, si ((p1 &&& (255 : Int32)).toUInt32.toUInt16.toUInt32.toInt32), si ((((p1.toUInt32 >>> ((8 : Int32) &&& 31).toUInt32).toInt32) &&& (255 : Int32)).toUInt32.toUInt16.toUInt32.toInt32)] [])) (fun t k => XS.bipush X0.here hx rfl (hb hby d1_8) (XS.iushr X0.here hx rfl (hb hby d1_10) rfl (XS.sipush X0.here hx rfl (hb hby d1_11) (XS.iand X0.here hx rfl (hb hby d1_14) rfl (XS.i2c X0.here hx rfl (hb hby d1_15) rfl (XS.istoreN X0.here hx rfl (hb hby d1_16) rfl (l' := #[si p1, si ((p1 &&& (255 : Int32)).toUInt32.toUInt16.toUInt32.toInt32), si ((((p1.toUInt32 >>> ((8 : Int32) &&& 31).toUInt32).toInt32) &&& (255 : Int32)).toUInt32.toUInt16.toUInt32.toInt32)]) rfl k)))))) ?_
  obtain ⟨T1, h1, X1, e1, E1, A1, D1, -, st1⟩ := newO X0 hx hZ hown (Wd hw 4 rfl) (Wd hw 5 rfl) (Wd hw 6 rfl) e0 (g := (mkF m 17 #[si p1, si ((p1 &&& (255 : Int32)).toUInt32.toUInt16.toUInt32.toInt32), si ((((p1.toUInt32 >>> ((8 : Int32) &&& 31).toUInt32).toInt32) &&& (255 : Int32)).toUInt32.toUInt16.toUInt32.toInt32)] [])) rfl (hb hby d1_17) (by decide) (by decide)
  obtain ⟨b1, g1⟩ : ∃ z, z = h0.size := ⟨_, rfl⟩
  rw [← g1] at A1 D1 st1
  have ge_b1 : n0 ≤ b1 := Nat.le_trans Z0 (Nat.le_of_eq g1.symm)
  have sz_b1 : h0.size ≤ b1 := Nat.le_trans (Keep.refl h0 []).1 (Nat.le_of_eq g1.symm)
  have K1 : Keep h0 h1 [] := (Keep.refl h0 []).ext E1
  have Z1 : n0 ≤ h1.size := Nat.le_trans Z0 E1.1
  have O1 := O0.ext E1
  have F1_coder : Fld Z h1 b1 "java/lang/String" "coder" "B" (.int (0 : Int32)) := D1 (Or.inr (Wd hw 31 rfl)) (ty := .byte) (by decide)
  have F1_value : Fld Z h1 b1 "java/lang/String" "value" "[B" .null := D1 (Or.inr (Wd hw 33 rfl)) (ty := (.array .byte)) (by decide)
  refine Goes.via (next := T1.setTop (mkF m 20 #[si p1, si ((p1 &&& (255 : Int32)).toUInt32.toUInt16.toUInt32.toInt32), si ((((p1.toUInt32 >>> ((8 : Int32) &&& 31).toUInt32).toInt32) &&& (255 : Int32)).toUInt32.toUInt16.toUInt32.toInt32)] [(.ref b1)])) st1 ?_
  refine Goes.via (next := T1.setTop (mkF m 22 #[si p1, si ((p1 &&& (255 : Int32)).toUInt32.toUInt16.toUInt32.toInt32), si ((((p1.toUInt32 >>> ((8 : Int32) &&& 31).toUInt32).toInt32) &&& (255 : Int32)).toUInt32.toUInt16.toUInt32.toInt32)] [(.int (2 : Int32)), (.ref b1), (.ref b1)])) (fun t k => XS.dup X1.here hx rfl (hb hby d1_20) rfl rfl (XS.iconst X1.here hx rfl (hb hby d1_21) k)) ?_
  obtain ⟨T2, h2, ka2, X2, e2, E2, A2, st2⟩ := newP X1 hx hZ (Wd hw 7 rfl) e1 (g := (mkF m 22 #[si p1, si ((p1 &&& (255 : Int32)).toUInt32.toUInt16.toUInt32.toInt32), si ((((p1.toUInt32 >>> ((8 : Int32) &&& 31).toUInt32).toInt32) &&& (255 : Int32)).toUInt32.toUInt16.toUInt32.toInt32)] [(.int (2 : Int32)), (.ref b1), (.ref b1)])) rfl (hb hby d1_22) rfl (by decide) (cap := 2) (by decide) (by decide) (by decide) (by decide)
  obtain ⟨b2, g2⟩ : ∃ z, z = h1.size := ⟨_, rfl⟩
  rw [← g2] at A2 st2
  have lt_b1_b2 : b1 < b2 := Nat.lt_of_lt_of_le A1.lt (Nat.le_of_eq g2.symm)
  have ge_b2 : n0 ≤ b2 := Nat.le_trans Z1 (Nat.le_of_eq g2.symm)
  have sz_b2 : h0.size ≤ b2 := Nat.le_trans K1.1 (Nat.le_of_eq g2.symm)
  have F2_20 := A1.ext E2
  have F2_21 := F1_coder.ext E2
  have F2_22 := F1_value.ext E2
  have K2 : Keep h0 h2 [] := K1.ext E2
  have Z2 : n0 ≤ h2.size := Nat.le_trans Z1 E2.1
  have O2 := O1.ext E2
  have V2 : Arv Z h2 b2 ka2 .char (2 : Int32) [(.int (0 : Int32)), (.int (0 : Int32))] (.int (0 : Int32)) := (Arv.new A2 (by decide)).pad (pad_rep [] (.int (0 : Int32)) 2)
  refine Goes.via (next := T2.setTop (mkF m 24 #[si p1, si ((p1 &&& (255 : Int32)).toUInt32.toUInt16.toUInt32.toInt32), si ((((p1.toUInt32 >>> ((8 : Int32) &&& 31).toUInt32).toInt32) &&& (255 : Int32)).toUInt32.toUInt16.toUInt32.toInt32)] [(.ref b2), (.ref b1), (.ref b1)])) st2 ?_
  refine Goes.via (next := T2.setTop (mkF m 27 #[si p1, si ((p1 &&& (255 : Int32)).toUInt32.toUInt16.toUInt32.toInt32), si ((((p1.toUInt32 >>> ((8 : Int32) &&& 31).toUInt32).toInt32) &&& (255 : Int32)).toUInt32.toUInt16.toUInt32.toInt32)] [(.int ((p1 &&& (255 : Int32)).toUInt32.toUInt16.toUInt32.toInt32)), (.int (0 : Int32)), (.ref b2), (.ref b2), (.ref b1), (.ref b1)])) (fun t k => XS.dup X2.here hx rfl (hb hby d1_24) rfl rfl (XS.iconst X2.here hx rfl (hb hby d1_25) (XS.iloadN X2.here hx rfl (hb hby d1_26) rfl k))) ?_
  obtain ⟨cl3, Ar3, qa3, Sa3, Na3, Ha3, Ga3⟩ := V2
  have hin3 : ¬ ((0 : Int32) < 0 ∨ cl3.slots.size ≤ ((0 : Int32)).toNatClampNeg) := inb_of Sa3 ⟨by decide, by decide⟩
  obtain ⟨T3, h3, X3, e3, W3, st3⟩ := stC X2 hx hZ e2 Ar3 (j := (0 : Int32)) hin3 (g := (mkF m 27 #[si p1, si ((p1 &&& (255 : Int32)).toUInt32.toUInt16.toUInt32.toInt32), si ((((p1.toUInt32 >>> ((8 : Int32) &&& 31).toUInt32).toInt32) &&& (255 : Int32)).toUInt32.toUInt16.toUInt32.toInt32)] [(.int ((p1 &&& (255 : Int32)).toUInt32.toUInt16.toUInt32.toInt32)), (.int (0 : Int32)), (.ref b2), (.ref b2), (.ref b1), (.ref b1)])) rfl rfl (hb hby d1_27)
  have V3 : Arv Z h3 b2 ka2 .char (2 : Int32) [(.int (nar .char ((p1 &&& (255 : Int32)).toUInt32.toUInt16.toUInt32.toInt32))), (.int (0 : Int32))] (.int (0 : Int32)) := Arv.set Ar3 qa3 Sa3 Na3 Ha3 Ga3 (fits_nar_char _) W3 0 rfl (Nat.le_of_ble_eq_true rfl)
  have F3_33 := F2_20.wr W3
  have F3_34 := F2_21.other W3 (Or.inl (Nat.ne_of_lt lt_b1_b2))
  have F3_35 := F2_22.other W3 (Or.inl (Nat.ne_of_lt lt_b1_b2))
  have K3 : Keep h0 h3 [] := K2.wr W3 (Or.inr sz_b2)
  have Z3 : n0 ≤ h3.size := Nat.le_trans Z2 (Keep.of_wr W3).1
  have N3 := Fr.snoc X3 N0 ge_b2
  have O3 := O2.wr W3 (Nat.le_trans hz ge_b2)
  refine Goes.via (next := T3.setTop (mkF m 28 #[si p1, si ((p1 &&& (255 : Int32)).toUInt32.toUInt16.toUInt32.toInt32), si ((((p1.toUInt32 >>> ((8 : Int32) &&& 31).toUInt32).toInt32) &&& (255 : Int32)).toUInt32.toUInt16.toUInt32.toInt32)] [(.ref b2), (.ref b1), (.ref b1)])) st3 ?_
  refine Goes.via (next := T3.setTop (mkF m 31 #[si p1, si ((p1 &&& (255 : Int32)).toUInt32.toUInt16.toUInt32.toInt32), si ((((p1.toUInt32 >>> ((8 : Int32) &&& 31).toUInt32).toInt32) &&& (255 : Int32)).toUInt32.toUInt16.toUInt32.toInt32)] [(.int ((((p1.toUInt32 >>> ((8 : Int32) &&& 31).toUInt32).toInt32) &&& (255 : Int32)).toUInt32.toUInt16.toUInt32.toInt32)), (.int (1 : Int32)), (.ref b2), (.ref b2), (.ref b1), (.ref b1)])) (fun t k => XS.dup X3.here hx rfl (hb hby d1_28) rfl rfl (XS.iconst X3.here hx rfl (hb hby d1_29) (XS.iloadN X3.here hx rfl (hb hby d1_30) rfl k))) ?_
  obtain ⟨cl4, Ar4, qa4, Sa4, Na4, Ha4, Ga4⟩ := V3
  have hin4 : ¬ ((1 : Int32) < 0 ∨ cl4.slots.size ≤ ((1 : Int32)).toNatClampNeg) := inb_of Sa4 ⟨by decide, by decide⟩
  obtain ⟨T4, h4, X4, e4, W4, st4⟩ := stC X3 hx hZ e3 Ar4 (j := (1 : Int32)) hin4 (g := (mkF m 31 #[si p1, si ((p1 &&& (255 : Int32)).toUInt32.toUInt16.toUInt32.toInt32), si ((((p1.toUInt32 >>> ((8 : Int32) &&& 31).toUInt32).toInt32) &&& (255 : Int32)).toUInt32.toUInt16.toUInt32.toInt32)] [(.int ((((p1.toUInt32 >>> ((8 : Int32) &&& 31).toUInt32).toInt32) &&& (255 : Int32)).toUInt32.toUInt16.toUInt32.toInt32)), (.int (1 : Int32)), (.ref b2), (.ref b2), (.ref b1), (.ref b1)])) rfl rfl (hb hby d1_31)
  have V4 : Arv Z h4 b2 ka2 .char (2 : Int32) [(.int (nar .char ((p1 &&& (255 : Int32)).toUInt32.toUInt16.toUInt32.toInt32))), (.int (nar .char ((((p1.toUInt32 >>> ((8 : Int32) &&& 31).toUInt32).toInt32) &&& (255 : Int32)).toUInt32.toUInt16.toUInt32.toInt32)))] (.int (0 : Int32)) := Arv.set Ar4 qa4 Sa4 Na4 Ha4 Ga4 (fits_nar_char _) W4 1 rfl (Nat.le_of_ble_eq_true rfl)
  have F4_46 := F3_33.wr W4
  have F4_47 := F3_34.other W4 (Or.inl (Nat.ne_of_lt lt_b1_b2))
  have F4_48 := F3_35.other W4 (Or.inl (Nat.ne_of_lt lt_b1_b2))
  have K4 : Keep h0 h4 [] := K3.wr W4 (Or.inr sz_b2)
  have Z4 : n0 ≤ h4.size := Nat.le_trans Z3 (Keep.of_wr W4).1
  have N4 := Fr.snoc X4 N3 ge_b2
  have O4 := O3.wr W4 (Nat.le_trans hz ge_b2)
  refine Goes.via (next := T4.setTop (mkF m 32 #[si p1, si ((p1 &&& (255 : Int32)).toUInt32.toUInt16.toUInt32.toInt32), si ((((p1.toUInt32 >>> ((8 : Int32) &&& 31).toUInt32).toInt32) &&& (255 : Int32)).toUInt32.toUInt16.toUInt32.toInt32)] [(.ref b2), (.ref b1), (.ref b1)])) st4 ?_
  obtain ⟨Lw5, X5w, N5w⟩ := ownPack X4 N4
  obtain ⟨_, _, ⟨T6, L6, k6, n6⟩, -, X6, ⟨Lc6, hQ6, l6, y6, z6⟩, st6⟩ := X5w.specialBack hx (y := (⟨"java/lang/String", "<init>", "([C)V"⟩ : MethodName)) rfl hown (mvT hZ (Wd hw 8 rfl)) (mvT hZ (Wd hw 9 rfl)) (mvT hZ (Wd hw 10 rfl)) (by decide) (backOf (W := 1) (rm2_2 l Z a0 hw [] b1 b2 ka2 (nar .char ((p1 &&& (255 : Int32)).toUInt32.toUInt16.toUInt32.toInt32)) (nar .char ((((p1.toUInt32 >>> ((8 : Int32) &&& 31).toUInt32).toInt32) &&& (255 : Int32)).toUInt32.toUInt16.toUInt32.toInt32)) w0 rE rL eL kL nZ h4 n0 Z4 F4_46 F4_48 F4_47 V4 ge_b1 (Nat.ne_of_lt lt_b1_b2) O4 hz St (own_c255 _) (own_c255 _)) hZ (Wd hw 10 rfl) (Wd hw 6 rfl) (by decide) (by decide)) (g := (mkF m 32 #[si p1, si ((p1 &&& (255 : Int32)).toUInt32.toUInt16.toUInt32.toInt32), si ((((p1.toUInt32 >>> ((8 : Int32) &&& 31).toUInt32).toInt32) &&& (255 : Int32)).toUInt32.toUInt16.toUInt32.toInt32)] [(.ref b2), (.ref b1), (.ref b1)])) rfl (by rw [hml]; rfl) (Steps.refl _) (a := b1) (argsL := [(.ref b2)]) (rest := [(.ref b1)]) (lenOf pd_4 rfl) rfl (by show 2 * 0 + _ ≤ _; exact Nat.le_of_eq rfl) (hb hby d1_32) (fun _ _ => ⟨rfl, e4, (by decide : 2 + 1 ≤ _), (by decide : 6 + 2 ≤ _)⟩)
  dsimp only [Pt.U, Pt.locs, Pt.cells, Pt.slots] at X6 l6 y6 z6 st6 hQ6
  subst l6 y6 z6
  obtain ⟨rfl, N6q, Kc6, Ec6, Cc6, t6, kt6, gt6, zt6, Vq6, Vc6⟩ := hQ6
  have lt_b1_t6 : b1 < t6 := Nat.lt_of_lt_of_le F4_46.lt zt6
  have lt_b2_t6 : b2 < t6 := Nat.lt_of_lt_of_le V4.lt zt6
  have sz_t6 : h0.size ≤ t6 := Nat.le_trans K4.1 zt6
  have F6_62 := F4_46.keep Kc6
  have F6_63 := V4.keep Kc6 (fun q => (Nat.ne_of_gt lt_b1_b2) (List.mem_singleton.mp q))
  have K6 : Keep h0 T6.heap [] := K4.trans Kc6 (fun x hx => by cases List.mem_singleton.mp hx; exact Or.inr sz_b1)
  have Z6 : n0 ≤ T6.heap.size := Nat.le_trans Z4 Kc6.1
  have O6 := O4.keep Kc6 (fun x hx => by cases List.mem_singleton.mp hx; exact (Nat.le_trans hz ge_b1))
  have N6 := Fr.app N5w N6q
  refine Goes.via (next := T6.setTop (mkF m 35 #[si p1, si ((p1 &&& (255 : Int32)).toUInt32.toUInt16.toUInt32.toInt32), si ((((p1.toUInt32 >>> ((8 : Int32) &&& 31).toUInt32).toInt32) &&& (255 : Int32)).toUInt32.toUInt16.toUInt32.toInt32)] [(.ref b1)])) (fun t k => st6.trans k) ?_
  obtain ⟨fs, hr, hrun, hended, hW, hsame⟩ := X6.leave (v := some (.ref b1)) (fun h => by rw [Bd.returns] at h; cases h)
  refine ⟨_, _, ?_, hrun, hended, _, _, rfl, ?_, ⟨_, rfl⟩, hW, hsame.mono (by decide) (by decide)⟩
  · exact retOut X6 hx (t := (.object "java/lang/String")) Bd.returns rfl (Or.inr (Or.inr (Or.inr (Or.inr ⟨rfl, rfl, rfl⟩)))) (hb hby d1_35) hr
  · show Q1 Z p1 h0 n0 _ T6.heap _
    exact ⟨b1, t6, _, rfl, N6, ge_b1, sz_b1, K6, F6_62, Cc6, Vq6, Vc6⟩
theorem d48_0 : decode method_3_code 0 = .ok (.iload_n 0, 1) := by decide +kernel
theorem d48_1 : decode method_3_code 1 = .ok (.sipush 255, 3) := by decide +kernel
theorem d48_4 : decode method_3_code 4 = .ok (.iand, 1) := by decide +kernel
theorem d48_5 : decode method_3_code 5 = .ok (.i2c, 1) := by decide +kernel
theorem d48_6 : decode method_3_code 6 = .ok (.istore_n 1, 1) := by decide +kernel
theorem d48_7 : decode method_3_code 7 = .ok (.iload_n 0, 1) := by decide +kernel
theorem d48_8 : decode method_3_code 8 = .ok (.bipush 8, 2) := by decide +kernel
theorem d48_10 : decode method_3_code 10 = .ok (.iushr, 1) := by decide +kernel
theorem d48_11 : decode method_3_code 11 = .ok (.sipush 255, 3) := by decide +kernel
theorem d48_14 : decode method_3_code 14 = .ok (.iand, 1) := by decide +kernel
theorem d48_15 : decode method_3_code 15 = .ok (.i2c, 1) := by decide +kernel
theorem d48_16 : decode method_3_code 16 = .ok (.istore_n 2, 1) := by decide +kernel
theorem d48_17 : decode method_3_code 17 = .ok (.new 7, 3) := by decide +kernel
theorem d48_20 : decode method_3_code 20 = .ok (.dup, 1) := by decide +kernel
theorem d48_21 : decode method_3_code 21 = .ok (.iconst 4, 1) := by decide +kernel
theorem d48_22 : decode method_3_code 22 = .ok (.newarray .char, 2) := by decide +kernel
theorem d48_24 : decode method_3_code 24 = .ok (.dup, 1) := by decide +kernel
theorem d48_25 : decode method_3_code 25 = .ok (.iconst 0, 1) := by decide +kernel
theorem d48_26 : decode method_3_code 26 = .ok (.bipush 39, 2) := by decide +kernel
theorem d48_28 : decode method_3_code 28 = .ok (.castore, 1) := by decide +kernel
theorem d48_29 : decode method_3_code 29 = .ok (.dup, 1) := by decide +kernel
theorem d48_30 : decode method_3_code 30 = .ok (.iconst 1, 1) := by decide +kernel
theorem d48_31 : decode method_3_code 31 = .ok (.iload_n 1, 1) := by decide +kernel
theorem d48_32 : decode method_3_code 32 = .ok (.castore, 1) := by decide +kernel
theorem d48_33 : decode method_3_code 33 = .ok (.dup, 1) := by decide +kernel
theorem d48_34 : decode method_3_code 34 = .ok (.iconst 2, 1) := by decide +kernel
theorem d48_35 : decode method_3_code 35 = .ok (.iload_n 2, 1) := by decide +kernel
theorem d48_36 : decode method_3_code 36 = .ok (.castore, 1) := by decide +kernel
theorem d48_37 : decode method_3_code 37 = .ok (.dup, 1) := by decide +kernel
theorem d48_38 : decode method_3_code 38 = .ok (.iconst 3, 1) := by decide +kernel
theorem d48_39 : decode method_3_code 39 = .ok (.bipush 39, 2) := by decide +kernel
theorem d48_41 : decode method_3_code 41 = .ok (.castore, 1) := by decide +kernel
theorem d48_42 : decode method_3_code 42 = .ok (.invokespecial 9, 3) := by decide +kernel
theorem d48_45 : decode method_3_code 45 = .ok (.areturn, 1) := by decide +kernel
theorem ef_48 (m : MethodId) (x0 : Int32) : entryFrame m #[(.int x0)] 3 = mkF m 0 #[.val (.int x0), .unset, .unset] [] := by first | (simp [entryFrame, mkF, argsToLocals, Value.category]; done) | rfl
def Q48 (Z : State) (p1 : Int32) (h0 : Heap) (n0 : Nat) (v : Option Value) (h : Heap) (L : List Loc) : Prop := ∃ (r t : Addr) (k : ClassId), v = some (.ref r) ∧ Fr n0 L ∧ n0 ≤ r ∧ h0.size ≤ r ∧ Keep h0 h [] ∧ Exa Z h r "java/lang/String" ∧ Fld Z h r "java/lang/String" "coder" "B" (.int (0 : Int32)) ∧ Fld Z h r "java/lang/String" "value" "[B" (.ref t) ∧ Arv Z h t k .byte (4 : Int32) [(.int (39 : Int32)), (.int (own_b0 p1)), (.int (own_b1 p1)), (.int (39 : Int32))] (.int (0 : Int32))
set_option maxRecDepth 65536 in
set_option maxHeartbeats 40000000 in
theorem rm48 (l : Launch) (Z : State) (a0 : Array Value) (hw : ∀ d ∈ tables_1, d.before a0 Z = true) (ws : List Jvm.Cond) (p1 : Int32) (w0 : Int32) (rE rL eL : Addr) (kL : ClassId) (nZ : Nat) (h0 : Heap) (n0 : Nat) (Z0 : n0 ≤ h0.size) (O0 : Old Z nZ h0) (hz : nZ ≤ n0) (St : own_St Z w0 rE rL eL kL) :
    MF l (⟨"com/example/attributes_to_claims/attributestoclaims/cli/OptionFlagPinLaw", "quotedOf", "(I)Ljava/lang/String;"⟩ : MethodName) method_3_code 3 (some (.object "java/lang/String")) ws ({ frames := 4, cells := 3, slots := 12, locals := 66 } : Room) #[(.int p1)] Z h0 (Q48 Z p1 h0 n0) := by
  refine MetFree.of_bodySF (plainFor_of_name pn_2) hisR ?_
  intro p e s m args below meth c s₁ Bd hml0 hP hK
  obtain ⟨rfl, hZ, hh⟩ := hP
  have hx := Bd.exec
  have hby := Bd.bytes
  have hml : c.maxLocals = 3 := hml0
  have hown : s.vm.findClass "com/example/attributes_to_claims/attributestoclaims/cli/OptionFlagPinLaw" = some m.cls := findClass_of_methodNamed Bd.named
  have hnm := (name_of_methodNamed Bd.named Bd.method).1
  have X0 : Stand p l e ({ frames := 4, cells := 3, slots := 12, locals := 66 } : Room) s m #[(.int p1)] below meth c s₁ [] 0 0 := Stand.of_body Bd
  have e0 : s₁.heap = h0 := by rw [← hh, Bd.state]; rfl
  have N0 := Fr.nil n0
  refine Goes.via (next := s₁.setTop (mkF m 0 #[.val (.int p1), .unset, .unset] [])) (fun t k => castTop (ef_48 m p1) k) ?_
  refine Goes.via (next := s₁.setTop (mkF m 8 #[si p1, si ((p1 &&& (255 : Int32)).toUInt32.toUInt16.toUInt32.toInt32), .unset] [(.int p1)])) (fun t k => XS.iloadN X0.here hx rfl (hb hby d48_0) rfl (XS.sipush X0.here hx rfl (hb hby d48_1) (XS.iand X0.here hx rfl (hb hby d48_4) rfl (XS.i2c X0.here hx rfl (hb hby d48_5) rfl (XS.istoreN X0.here hx rfl (hb hby d48_6) rfl (l' := #[si p1, si ((p1 &&& (255 : Int32)).toUInt32.toUInt16.toUInt32.toInt32), .unset]) rfl (XS.iloadN X0.here hx rfl (hb hby d48_7) rfl k)))))) ?_
  refine Goes.via (next := s₁.setTop (mkF m 17 #[si p1, si ((p1 &&& (255 : Int32)).toUInt32.toUInt16.toUInt32.toInt32), si ((((p1.toUInt32 >>> ((8 : Int32) &&& 31).toUInt32).toInt32) &&& (255 : Int32)).toUInt32.toUInt16.toUInt32.toInt32)] [])) (fun t k => XS.bipush X0.here hx rfl (hb hby d48_8) (XS.iushr X0.here hx rfl (hb hby d48_10) rfl (XS.sipush X0.here hx rfl (hb hby d48_11) (XS.iand X0.here hx rfl (hb hby d48_14) rfl (XS.i2c X0.here hx rfl (hb hby d48_15) rfl (XS.istoreN X0.here hx rfl (hb hby d48_16) rfl (l' := #[si p1, si ((p1 &&& (255 : Int32)).toUInt32.toUInt16.toUInt32.toInt32), si ((((p1.toUInt32 >>> ((8 : Int32) &&& 31).toUInt32).toInt32) &&& (255 : Int32)).toUInt32.toUInt16.toUInt32.toInt32)]) rfl k)))))) ?_
  obtain ⟨T1, h1, X1, e1, E1, A1, D1, -, st1⟩ := newO X0 hx hZ hown (Wd hw 4 rfl) (Wd hw 5 rfl) (Wd hw 6 rfl) e0 (g := (mkF m 17 #[si p1, si ((p1 &&& (255 : Int32)).toUInt32.toUInt16.toUInt32.toInt32), si ((((p1.toUInt32 >>> ((8 : Int32) &&& 31).toUInt32).toInt32) &&& (255 : Int32)).toUInt32.toUInt16.toUInt32.toInt32)] [])) rfl (hb hby d48_17) (by decide) (by decide)
  obtain ⟨b1, g1⟩ : ∃ z, z = h0.size := ⟨_, rfl⟩
  rw [← g1] at A1 D1 st1
  have ge_b1 : n0 ≤ b1 := Nat.le_trans Z0 (Nat.le_of_eq g1.symm)
  have sz_b1 : h0.size ≤ b1 := Nat.le_trans (Keep.refl h0 []).1 (Nat.le_of_eq g1.symm)
  have K1 : Keep h0 h1 [] := (Keep.refl h0 []).ext E1
  have Z1 : n0 ≤ h1.size := Nat.le_trans Z0 E1.1
  have O1 := O0.ext E1
  have F1_coder : Fld Z h1 b1 "java/lang/String" "coder" "B" (.int (0 : Int32)) := D1 (Or.inr (Wd hw 31 rfl)) (ty := .byte) (by decide)
  have F1_value : Fld Z h1 b1 "java/lang/String" "value" "[B" .null := D1 (Or.inr (Wd hw 33 rfl)) (ty := (.array .byte)) (by decide)
  refine Goes.via (next := T1.setTop (mkF m 20 #[si p1, si ((p1 &&& (255 : Int32)).toUInt32.toUInt16.toUInt32.toInt32), si ((((p1.toUInt32 >>> ((8 : Int32) &&& 31).toUInt32).toInt32) &&& (255 : Int32)).toUInt32.toUInt16.toUInt32.toInt32)] [(.ref b1)])) st1 ?_
  refine Goes.via (next := T1.setTop (mkF m 22 #[si p1, si ((p1 &&& (255 : Int32)).toUInt32.toUInt16.toUInt32.toInt32), si ((((p1.toUInt32 >>> ((8 : Int32) &&& 31).toUInt32).toInt32) &&& (255 : Int32)).toUInt32.toUInt16.toUInt32.toInt32)] [(.int (4 : Int32)), (.ref b1), (.ref b1)])) (fun t k => XS.dup X1.here hx rfl (hb hby d48_20) rfl rfl (XS.iconst X1.here hx rfl (hb hby d48_21) k)) ?_
  obtain ⟨T2, h2, ka2, X2, e2, E2, A2, st2⟩ := newP X1 hx hZ (Wd hw 7 rfl) e1 (g := (mkF m 22 #[si p1, si ((p1 &&& (255 : Int32)).toUInt32.toUInt16.toUInt32.toInt32), si ((((p1.toUInt32 >>> ((8 : Int32) &&& 31).toUInt32).toInt32) &&& (255 : Int32)).toUInt32.toUInt16.toUInt32.toInt32)] [(.int (4 : Int32)), (.ref b1), (.ref b1)])) rfl (hb hby d48_22) rfl (by decide) (cap := 4) (by decide) (by decide) (by decide) (by decide)
  obtain ⟨b2, g2⟩ : ∃ z, z = h1.size := ⟨_, rfl⟩
  rw [← g2] at A2 st2
  have lt_b1_b2 : b1 < b2 := Nat.lt_of_lt_of_le A1.lt (Nat.le_of_eq g2.symm)
  have ge_b2 : n0 ≤ b2 := Nat.le_trans Z1 (Nat.le_of_eq g2.symm)
  have sz_b2 : h0.size ≤ b2 := Nat.le_trans K1.1 (Nat.le_of_eq g2.symm)
  have F2_20 := A1.ext E2
  have F2_21 := F1_coder.ext E2
  have F2_22 := F1_value.ext E2
  have K2 : Keep h0 h2 [] := K1.ext E2
  have Z2 : n0 ≤ h2.size := Nat.le_trans Z1 E2.1
  have O2 := O1.ext E2
  have V2 : Arv Z h2 b2 ka2 .char (4 : Int32) [(.int (0 : Int32)), (.int (0 : Int32)), (.int (0 : Int32)), (.int (0 : Int32))] (.int (0 : Int32)) := (Arv.new A2 (by decide)).pad (pad_rep [] (.int (0 : Int32)) 4)
  refine Goes.via (next := T2.setTop (mkF m 24 #[si p1, si ((p1 &&& (255 : Int32)).toUInt32.toUInt16.toUInt32.toInt32), si ((((p1.toUInt32 >>> ((8 : Int32) &&& 31).toUInt32).toInt32) &&& (255 : Int32)).toUInt32.toUInt16.toUInt32.toInt32)] [(.ref b2), (.ref b1), (.ref b1)])) st2 ?_
  refine Goes.via (next := T2.setTop (mkF m 28 #[si p1, si ((p1 &&& (255 : Int32)).toUInt32.toUInt16.toUInt32.toInt32), si ((((p1.toUInt32 >>> ((8 : Int32) &&& 31).toUInt32).toInt32) &&& (255 : Int32)).toUInt32.toUInt16.toUInt32.toInt32)] [(.int (39 : Int32)), (.int (0 : Int32)), (.ref b2), (.ref b2), (.ref b1), (.ref b1)])) (fun t k => XS.dup X2.here hx rfl (hb hby d48_24) rfl rfl (XS.iconst X2.here hx rfl (hb hby d48_25) (XS.bipush X2.here hx rfl (hb hby d48_26) k))) ?_
  obtain ⟨cl3, Ar3, qa3, Sa3, Na3, Ha3, Ga3⟩ := V2
  have hin3 : ¬ ((0 : Int32) < 0 ∨ cl3.slots.size ≤ ((0 : Int32)).toNatClampNeg) := inb_of Sa3 ⟨by decide, by decide⟩
  obtain ⟨T3, h3, X3, e3, W3, st3⟩ := stC X2 hx hZ e2 Ar3 (j := (0 : Int32)) hin3 (g := (mkF m 28 #[si p1, si ((p1 &&& (255 : Int32)).toUInt32.toUInt16.toUInt32.toInt32), si ((((p1.toUInt32 >>> ((8 : Int32) &&& 31).toUInt32).toInt32) &&& (255 : Int32)).toUInt32.toUInt16.toUInt32.toInt32)] [(.int (39 : Int32)), (.int (0 : Int32)), (.ref b2), (.ref b2), (.ref b1), (.ref b1)])) rfl rfl (hb hby d48_28)
  have V3 : Arv Z h3 b2 ka2 .char (4 : Int32) [(.int (39 : Int32)), (.int (0 : Int32)), (.int (0 : Int32)), (.int (0 : Int32))] (.int (0 : Int32)) := Arv.set Ar3 qa3 Sa3 Na3 Ha3 Ga3 (by decide) W3 0 rfl (Nat.le_of_ble_eq_true rfl)
  have F3_33 := F2_20.wr W3
  have F3_34 := F2_21.other W3 (Or.inl (Nat.ne_of_lt lt_b1_b2))
  have F3_35 := F2_22.other W3 (Or.inl (Nat.ne_of_lt lt_b1_b2))
  have K3 : Keep h0 h3 [] := K2.wr W3 (Or.inr sz_b2)
  have Z3 : n0 ≤ h3.size := Nat.le_trans Z2 (Keep.of_wr W3).1
  have N3 := Fr.snoc X3 N0 ge_b2
  have O3 := O2.wr W3 (Nat.le_trans hz ge_b2)
  refine Goes.via (next := T3.setTop (mkF m 29 #[si p1, si ((p1 &&& (255 : Int32)).toUInt32.toUInt16.toUInt32.toInt32), si ((((p1.toUInt32 >>> ((8 : Int32) &&& 31).toUInt32).toInt32) &&& (255 : Int32)).toUInt32.toUInt16.toUInt32.toInt32)] [(.ref b2), (.ref b1), (.ref b1)])) st3 ?_
  refine Goes.via (next := T3.setTop (mkF m 32 #[si p1, si ((p1 &&& (255 : Int32)).toUInt32.toUInt16.toUInt32.toInt32), si ((((p1.toUInt32 >>> ((8 : Int32) &&& 31).toUInt32).toInt32) &&& (255 : Int32)).toUInt32.toUInt16.toUInt32.toInt32)] [(.int ((p1 &&& (255 : Int32)).toUInt32.toUInt16.toUInt32.toInt32)), (.int (1 : Int32)), (.ref b2), (.ref b2), (.ref b1), (.ref b1)])) (fun t k => XS.dup X3.here hx rfl (hb hby d48_29) rfl rfl (XS.iconst X3.here hx rfl (hb hby d48_30) (XS.iloadN X3.here hx rfl (hb hby d48_31) rfl k))) ?_
  obtain ⟨cl4, Ar4, qa4, Sa4, Na4, Ha4, Ga4⟩ := V3
  have hin4 : ¬ ((1 : Int32) < 0 ∨ cl4.slots.size ≤ ((1 : Int32)).toNatClampNeg) := inb_of Sa4 ⟨by decide, by decide⟩
  obtain ⟨T4, h4, X4, e4, W4, st4⟩ := stC X3 hx hZ e3 Ar4 (j := (1 : Int32)) hin4 (g := (mkF m 32 #[si p1, si ((p1 &&& (255 : Int32)).toUInt32.toUInt16.toUInt32.toInt32), si ((((p1.toUInt32 >>> ((8 : Int32) &&& 31).toUInt32).toInt32) &&& (255 : Int32)).toUInt32.toUInt16.toUInt32.toInt32)] [(.int ((p1 &&& (255 : Int32)).toUInt32.toUInt16.toUInt32.toInt32)), (.int (1 : Int32)), (.ref b2), (.ref b2), (.ref b1), (.ref b1)])) rfl rfl (hb hby d48_32)
  have V4 : Arv Z h4 b2 ka2 .char (4 : Int32) [(.int (39 : Int32)), (.int (nar .char ((p1 &&& (255 : Int32)).toUInt32.toUInt16.toUInt32.toInt32))), (.int (0 : Int32)), (.int (0 : Int32))] (.int (0 : Int32)) := Arv.set Ar4 qa4 Sa4 Na4 Ha4 Ga4 (fits_nar_char _) W4 1 rfl (Nat.le_of_ble_eq_true rfl)
  have F4_46 := F3_33.wr W4
  have F4_47 := F3_34.other W4 (Or.inl (Nat.ne_of_lt lt_b1_b2))
  have F4_48 := F3_35.other W4 (Or.inl (Nat.ne_of_lt lt_b1_b2))
  have K4 : Keep h0 h4 [] := K3.wr W4 (Or.inr sz_b2)
  have Z4 : n0 ≤ h4.size := Nat.le_trans Z3 (Keep.of_wr W4).1
  have N4 := Fr.snoc X4 N3 ge_b2
  have O4 := O3.wr W4 (Nat.le_trans hz ge_b2)
  refine Goes.via (next := T4.setTop (mkF m 33 #[si p1, si ((p1 &&& (255 : Int32)).toUInt32.toUInt16.toUInt32.toInt32), si ((((p1.toUInt32 >>> ((8 : Int32) &&& 31).toUInt32).toInt32) &&& (255 : Int32)).toUInt32.toUInt16.toUInt32.toInt32)] [(.ref b2), (.ref b1), (.ref b1)])) st4 ?_
  refine Goes.via (next := T4.setTop (mkF m 36 #[si p1, si ((p1 &&& (255 : Int32)).toUInt32.toUInt16.toUInt32.toInt32), si ((((p1.toUInt32 >>> ((8 : Int32) &&& 31).toUInt32).toInt32) &&& (255 : Int32)).toUInt32.toUInt16.toUInt32.toInt32)] [(.int ((((p1.toUInt32 >>> ((8 : Int32) &&& 31).toUInt32).toInt32) &&& (255 : Int32)).toUInt32.toUInt16.toUInt32.toInt32)), (.int (2 : Int32)), (.ref b2), (.ref b2), (.ref b1), (.ref b1)])) (fun t k => XS.dup X4.here hx rfl (hb hby d48_33) rfl rfl (XS.iconst X4.here hx rfl (hb hby d48_34) (XS.iloadN X4.here hx rfl (hb hby d48_35) rfl k))) ?_
  obtain ⟨cl5, Ar5, qa5, Sa5, Na5, Ha5, Ga5⟩ := V4
  have hin5 : ¬ ((2 : Int32) < 0 ∨ cl5.slots.size ≤ ((2 : Int32)).toNatClampNeg) := inb_of Sa5 ⟨by decide, by decide⟩
  obtain ⟨T5, h5, X5, e5, W5, st5⟩ := stC X4 hx hZ e4 Ar5 (j := (2 : Int32)) hin5 (g := (mkF m 36 #[si p1, si ((p1 &&& (255 : Int32)).toUInt32.toUInt16.toUInt32.toInt32), si ((((p1.toUInt32 >>> ((8 : Int32) &&& 31).toUInt32).toInt32) &&& (255 : Int32)).toUInt32.toUInt16.toUInt32.toInt32)] [(.int ((((p1.toUInt32 >>> ((8 : Int32) &&& 31).toUInt32).toInt32) &&& (255 : Int32)).toUInt32.toUInt16.toUInt32.toInt32)), (.int (2 : Int32)), (.ref b2), (.ref b2), (.ref b1), (.ref b1)])) rfl rfl (hb hby d48_36)
  have V5 : Arv Z h5 b2 ka2 .char (4 : Int32) [(.int (39 : Int32)), (.int (nar .char ((p1 &&& (255 : Int32)).toUInt32.toUInt16.toUInt32.toInt32))), (.int (nar .char ((((p1.toUInt32 >>> ((8 : Int32) &&& 31).toUInt32).toInt32) &&& (255 : Int32)).toUInt32.toUInt16.toUInt32.toInt32))), (.int (0 : Int32))] (.int (0 : Int32)) := Arv.set Ar5 qa5 Sa5 Na5 Ha5 Ga5 (fits_nar_char _) W5 2 rfl (Nat.le_of_ble_eq_true rfl)
  have F5_59 := F4_46.wr W5
  have F5_60 := F4_47.other W5 (Or.inl (Nat.ne_of_lt lt_b1_b2))
  have F5_61 := F4_48.other W5 (Or.inl (Nat.ne_of_lt lt_b1_b2))
  have K5 : Keep h0 h5 [] := K4.wr W5 (Or.inr sz_b2)
  have Z5 : n0 ≤ h5.size := Nat.le_trans Z4 (Keep.of_wr W5).1
  have N5 := Fr.snoc X5 N4 ge_b2
  have O5 := O4.wr W5 (Nat.le_trans hz ge_b2)
  refine Goes.via (next := T5.setTop (mkF m 37 #[si p1, si ((p1 &&& (255 : Int32)).toUInt32.toUInt16.toUInt32.toInt32), si ((((p1.toUInt32 >>> ((8 : Int32) &&& 31).toUInt32).toInt32) &&& (255 : Int32)).toUInt32.toUInt16.toUInt32.toInt32)] [(.ref b2), (.ref b1), (.ref b1)])) st5 ?_
  refine Goes.via (next := T5.setTop (mkF m 41 #[si p1, si ((p1 &&& (255 : Int32)).toUInt32.toUInt16.toUInt32.toInt32), si ((((p1.toUInt32 >>> ((8 : Int32) &&& 31).toUInt32).toInt32) &&& (255 : Int32)).toUInt32.toUInt16.toUInt32.toInt32)] [(.int (39 : Int32)), (.int (3 : Int32)), (.ref b2), (.ref b2), (.ref b1), (.ref b1)])) (fun t k => XS.dup X5.here hx rfl (hb hby d48_37) rfl rfl (XS.iconst X5.here hx rfl (hb hby d48_38) (XS.bipush X5.here hx rfl (hb hby d48_39) k))) ?_
  obtain ⟨cl6, Ar6, qa6, Sa6, Na6, Ha6, Ga6⟩ := V5
  have hin6 : ¬ ((3 : Int32) < 0 ∨ cl6.slots.size ≤ ((3 : Int32)).toNatClampNeg) := inb_of Sa6 ⟨by decide, by decide⟩
  obtain ⟨T6, h6, X6, e6, W6, st6⟩ := stC X5 hx hZ e5 Ar6 (j := (3 : Int32)) hin6 (g := (mkF m 41 #[si p1, si ((p1 &&& (255 : Int32)).toUInt32.toUInt16.toUInt32.toInt32), si ((((p1.toUInt32 >>> ((8 : Int32) &&& 31).toUInt32).toInt32) &&& (255 : Int32)).toUInt32.toUInt16.toUInt32.toInt32)] [(.int (39 : Int32)), (.int (3 : Int32)), (.ref b2), (.ref b2), (.ref b1), (.ref b1)])) rfl rfl (hb hby d48_41)
  have V6 : Arv Z h6 b2 ka2 .char (4 : Int32) [(.int (39 : Int32)), (.int (nar .char ((p1 &&& (255 : Int32)).toUInt32.toUInt16.toUInt32.toInt32))), (.int (nar .char ((((p1.toUInt32 >>> ((8 : Int32) &&& 31).toUInt32).toInt32) &&& (255 : Int32)).toUInt32.toUInt16.toUInt32.toInt32))), (.int (39 : Int32))] (.int (0 : Int32)) := Arv.set Ar6 qa6 Sa6 Na6 Ha6 Ga6 (by decide) W6 3 rfl (Nat.le_of_ble_eq_true rfl)
  have F6_72 := F5_59.wr W6
  have F6_73 := F5_60.other W6 (Or.inl (Nat.ne_of_lt lt_b1_b2))
  have F6_74 := F5_61.other W6 (Or.inl (Nat.ne_of_lt lt_b1_b2))
  have K6 : Keep h0 h6 [] := K5.wr W6 (Or.inr sz_b2)
  have Z6 : n0 ≤ h6.size := Nat.le_trans Z5 (Keep.of_wr W6).1
  have N6 := Fr.snoc X6 N5 ge_b2
  have O6 := O5.wr W6 (Nat.le_trans hz ge_b2)
  refine Goes.via (next := T6.setTop (mkF m 42 #[si p1, si ((p1 &&& (255 : Int32)).toUInt32.toUInt16.toUInt32.toInt32), si ((((p1.toUInt32 >>> ((8 : Int32) &&& 31).toUInt32).toInt32) &&& (255 : Int32)).toUInt32.toUInt16.toUInt32.toInt32)] [(.ref b2), (.ref b1), (.ref b1)])) st6 ?_
  obtain ⟨Lw7, X7w, N7w⟩ := ownPack X6 N6
  obtain ⟨_, _, ⟨T8, L8, k8, n8⟩, -, X8, ⟨Lc8, hQ8, l8, y8, z8⟩, st8⟩ := X7w.specialBack hx (y := (⟨"java/lang/String", "<init>", "([C)V"⟩ : MethodName)) rfl hown (mvT hZ (Wd hw 8 rfl)) (mvT hZ (Wd hw 9 rfl)) (mvT hZ (Wd hw 10 rfl)) (by decide) (backOf (W := 1) (rm2_4 l Z a0 hw [] b1 b2 ka2 (39 : Int32) (nar .char ((p1 &&& (255 : Int32)).toUInt32.toUInt16.toUInt32.toInt32)) (nar .char ((((p1.toUInt32 >>> ((8 : Int32) &&& 31).toUInt32).toInt32) &&& (255 : Int32)).toUInt32.toUInt16.toUInt32.toInt32)) (39 : Int32) w0 rE rL eL kL nZ h6 n0 Z6 F6_72 F6_74 F6_73 V6 ge_b1 (Nat.ne_of_lt lt_b1_b2) O6 hz St (by decide) (own_c255 _) (own_c255 _) (by decide)) hZ (Wd hw 10 rfl) (Wd hw 6 rfl) (by decide) (by decide)) (g := (mkF m 42 #[si p1, si ((p1 &&& (255 : Int32)).toUInt32.toUInt16.toUInt32.toInt32), si ((((p1.toUInt32 >>> ((8 : Int32) &&& 31).toUInt32).toInt32) &&& (255 : Int32)).toUInt32.toUInt16.toUInt32.toInt32)] [(.ref b2), (.ref b1), (.ref b1)])) rfl (by rw [hml]; rfl) (Steps.refl _) (a := b1) (argsL := [(.ref b2)]) (rest := [(.ref b1)]) (lenOf pd_4 rfl) rfl (by show 2 * 0 + _ ≤ _; exact Nat.le_of_eq rfl) (hb hby d48_42) (fun _ _ => ⟨rfl, e6, (by decide : 2 + 1 ≤ _), (by decide : 8 + 4 ≤ _)⟩)
  dsimp only [Pt.U, Pt.locs, Pt.cells, Pt.slots] at X8 l8 y8 z8 st8 hQ8
  subst l8 y8 z8
  obtain ⟨rfl, N8q, Kc8, Ec8, Cc8, t8, kt8, gt8, zt8, Vq8, Vc8⟩ := hQ8
  have lt_b1_t8 : b1 < t8 := Nat.lt_of_lt_of_le F6_72.lt zt8
  have lt_b2_t8 : b2 < t8 := Nat.lt_of_lt_of_le V6.lt zt8
  have sz_t8 : h0.size ≤ t8 := Nat.le_trans K6.1 zt8
  have F8_88 := F6_72.keep Kc8
  have F8_89 := V6.keep Kc8 (fun q => (Nat.ne_of_gt lt_b1_b2) (List.mem_singleton.mp q))
  have K8 : Keep h0 T8.heap [] := K6.trans Kc8 (fun x hx => by cases List.mem_singleton.mp hx; exact Or.inr sz_b1)
  have Z8 : n0 ≤ T8.heap.size := Nat.le_trans Z6 Kc8.1
  have O8 := O6.keep Kc8 (fun x hx => by cases List.mem_singleton.mp hx; exact (Nat.le_trans hz ge_b1))
  have N8 := Fr.app N7w N8q
  refine Goes.via (next := T8.setTop (mkF m 45 #[si p1, si ((p1 &&& (255 : Int32)).toUInt32.toUInt16.toUInt32.toInt32), si ((((p1.toUInt32 >>> ((8 : Int32) &&& 31).toUInt32).toInt32) &&& (255 : Int32)).toUInt32.toUInt16.toUInt32.toInt32)] [(.ref b1)])) (fun t k => st8.trans k) ?_
  obtain ⟨fs, hr, hrun, hended, hW, hsame⟩ := X8.leave (v := some (.ref b1)) (fun h => by rw [Bd.returns] at h; cases h)
  refine ⟨_, _, ?_, hrun, hended, _, _, rfl, ?_, ⟨_, rfl⟩, hW, hsame.mono (by decide) (by decide)⟩
  · exact retOut X8 hx (t := (.object "java/lang/String")) Bd.returns rfl (Or.inr (Or.inr (Or.inr (Or.inr ⟨rfl, rfl, rfl⟩)))) (hb hby d48_45) hr
  · show Q48 Z p1 h0 n0 _ T8.heap _
    exact ⟨b1, t8, _, rfl, N8, ge_b1, sz_b1, K8, F8_88, Cc8, Vq8, Vc8⟩
theorem d23_0 : decode jdk_22_method_1_code 0 = .ok (.aload_n 0, 1) := by decide +kernel
theorem d23_1 : decode jdk_22_method_1_code 1 = .ok (.invokespecial 1, 3) := by decide +kernel
theorem d23_4 : decode jdk_22_method_1_code 4 = .ok (.return_, 1) := by decide +kernel
theorem pn_3 : plainName "java/util/AbstractCollection" = true := by first | (simp [plainName, overriddenIn]; done) | decide +kernel
theorem ef_23 (m : MethodId) (x0 : Addr) : entryFrame m #[(.ref x0)] 1 = mkF m 0 #[.val (.ref x0)] [] := by first | (simp [entryFrame, mkF, argsToLocals, Value.category]; done) | rfl
def Q23 (Z : State) (h0 : Heap) (n0 : Nat) (v : Option Value) (h : Heap) (L : List Loc) : Prop := v = none ∧ Fr n0 L ∧ h = h0
set_option maxRecDepth 65536 in
set_option maxHeartbeats 40000000 in
theorem rm23 (l : Launch) (Z : State) (a0 : Array Value) (hw : ∀ d ∈ tables_1, d.before a0 Z = true) (ws : List Jvm.Cond) (a1 : Addr) (h0 : Heap) (n0 : Nat) (Z0 : n0 ≤ h0.size) :
    MF l (⟨"java/util/AbstractCollection", "<init>", "()V"⟩ : MethodName) jdk_22_method_1_code 1 none ws ({ frames := 1, cells := 0, slots := 0, locals := 12 } : Room) #[(.ref a1)] Z h0 (Q23 Z  h0 n0) := by
  refine MetFree.of_bodySF (plainFor_of_name pn_3) hisR ?_
  intro p e s m args below meth c s₁ Bd hml0 hP hK
  obtain ⟨rfl, hZ, hh⟩ := hP
  have hx := Bd.exec
  have hby := Bd.bytes
  have hml : c.maxLocals = 1 := hml0
  have hown : s.vm.findClass "java/util/AbstractCollection" = some m.cls := findClass_of_methodNamed Bd.named
  have hnm := (name_of_methodNamed Bd.named Bd.method).1
  have X0 : Stand p l e ({ frames := 1, cells := 0, slots := 0, locals := 12 } : Room) s m #[(.ref a1)] below meth c s₁ [] 0 0 := Stand.of_body Bd
  have e0 : s₁.heap = h0 := by rw [← hh, Bd.state]; rfl
  have N0 := Fr.nil n0
  refine Goes.via (next := s₁.setTop (mkF m 0 #[.val (.ref a1)] [])) (fun t k => castTop (ef_23 m a1) k) ?_
  refine Goes.via (next := s₁.setTop (mkF m 1 #[sr a1] [(.ref a1)])) (fun t k => XS.aloadN X0.here hx rfl (hb hby d23_0) rfl rfl k) ?_
  obtain ⟨T1, X1, e1, st1⟩ := initO X0 hx hZ hown (Wd hw 137 rfl) (Wd hw 16 rfl) (Wd hw 17 rfl) e0 (g := (mkF m 1 #[sr a1] [(.ref a1)])) rfl (by rw [hml]; rfl) rfl (hb hby d23_1) (by decide) (W := 0) (by show 2 * 0 + _ ≤ _; exact Nat.le_of_eq rfl) (by decide)
  refine Goes.via (next := T1.setTop (mkF m 4 #[sr a1] [])) st1 ?_
  obtain ⟨fs, hr, hrun, hended, hW, hsame⟩ := X1.leave (v := none) (fun _ => rfl)
  refine ⟨_, _, ?_, hrun, hended, _, _, rfl, ?_, ⟨_, rfl⟩, hW, hsame.mono (by decide) (by decide)⟩
  · exact X1.returnOut hx Bd.returns (hb hby d23_4) hr
  · show Q23 Z  h0 n0 _ T1.heap _
    rw [e1]
    exact ⟨rfl, N0, rfl⟩
theorem d22_0 : decode jdk_47_method_1_code 0 = .ok (.aload_n 0, 1) := by decide +kernel
theorem d22_1 : decode jdk_47_method_1_code 1 = .ok (.invokespecial 1, 3) := by decide +kernel
theorem d22_4 : decode jdk_47_method_1_code 4 = .ok (.return_, 1) := by decide +kernel
theorem pn_4 : plainName "java/util/ImmutableCollections$AbstractImmutableCollection" = true := by first | (simp [plainName, overriddenIn]; done) | decide +kernel
theorem pd_5 : parseMethodDescriptor "()V" = some ⟨[], none⟩ := by decide +kernel
theorem ef_22 (m : MethodId) (x0 : Addr) : entryFrame m #[(.ref x0)] 1 = mkF m 0 #[.val (.ref x0)] [] := by first | (simp [entryFrame, mkF, argsToLocals, Value.category]; done) | rfl
def Q22 (Z : State) (h0 : Heap) (n0 : Nat) (v : Option Value) (h : Heap) (L : List Loc) : Prop := v = none ∧ Fr n0 L ∧ h = h0
set_option maxRecDepth 65536 in
set_option maxHeartbeats 40000000 in
theorem rm22 (l : Launch) (Z : State) (a0 : Array Value) (hw : ∀ d ∈ tables_1, d.before a0 Z = true) (ws : List Jvm.Cond) (a1 : Addr) (h0 : Heap) (n0 : Nat) (Z0 : n0 ≤ h0.size) :
    MF l (⟨"java/util/ImmutableCollections$AbstractImmutableCollection", "<init>", "()V"⟩ : MethodName) jdk_47_method_1_code 1 none ws ({ frames := 2, cells := 0, slots := 0, locals := 24 } : Room) #[(.ref a1)] Z h0 (Q22 Z  h0 n0) := by
  refine MetFree.of_bodySF (plainFor_of_name pn_4) hisR ?_
  intro p e s m args below meth c s₁ Bd hml0 hP hK
  obtain ⟨rfl, hZ, hh⟩ := hP
  have hx := Bd.exec
  have hby := Bd.bytes
  have hml : c.maxLocals = 1 := hml0
  have hown : s.vm.findClass "java/util/ImmutableCollections$AbstractImmutableCollection" = some m.cls := findClass_of_methodNamed Bd.named
  have hnm := (name_of_methodNamed Bd.named Bd.method).1
  have X0 : Stand p l e ({ frames := 2, cells := 0, slots := 0, locals := 24 } : Room) s m #[(.ref a1)] below meth c s₁ [] 0 0 := Stand.of_body Bd
  have e0 : s₁.heap = h0 := by rw [← hh, Bd.state]; rfl
  have N0 := Fr.nil n0
  refine Goes.via (next := s₁.setTop (mkF m 0 #[.val (.ref a1)] [])) (fun t k => castTop (ef_22 m a1) k) ?_
  refine Goes.via (next := s₁.setTop (mkF m 1 #[sr a1] [(.ref a1)])) (fun t k => XS.aloadN X0.here hx rfl (hb hby d22_0) rfl rfl k) ?_
  obtain ⟨_, _, ⟨T1, L1, k1, n1⟩, -, X1, ⟨Lc1, hQ1, l1, y1, z1⟩, st1⟩ := X0.specialBack hx (y := (⟨"java/util/AbstractCollection", "<init>", "()V"⟩ : MethodName)) rfl hown (mvT hZ (Wd hw 131 rfl)) (mvT hZ (Wd hw 132 rfl)) (mvT hZ (Wd hw 136 rfl)) (by decide) (backOf (W := 0) (rm23 l Z a0 hw [] a1  h0 n0 Z0 ) hZ (Wd hw 136 rfl) (Wd hw 135 rfl) (by decide) (by decide)) (g := (mkF m 1 #[sr a1] [(.ref a1)])) rfl (by rw [hml]; rfl) (Steps.refl _) (a := a1) (argsL := []) (rest := []) (lenOf pd_5 rfl) rfl (by show 2 * 0 + _ ≤ _; exact Nat.le_of_eq rfl) (hb hby d22_1) (fun _ _ => ⟨rfl, e0, (by decide : 0 + 0 ≤ _), (by decide : 0 + 0 ≤ _)⟩)
  dsimp only [Pt.U, Pt.locs, Pt.cells, Pt.slots] at X1 l1 y1 z1 st1 hQ1
  subst l1 y1 z1
  obtain ⟨rfl, N1q, er1⟩ := hQ1
  have e1 : T1.heap = h0 := er1
  have N1 := Fr.app N0 N1q
  refine Goes.via (next := T1.setTop (mkF m 4 #[sr a1] [])) (fun t k => st1.trans k) ?_
  obtain ⟨fs, hr, hrun, hended, hW, hsame⟩ := X1.leave (v := none) (fun _ => rfl)
  refine ⟨_, _, ?_, hrun, hended, _, _, rfl, ?_, ⟨_, rfl⟩, hW, hsame.mono (by decide) (by decide)⟩
  · exact X1.returnOut hx Bd.returns (hb hby d22_4) hr
  · show Q22 Z  h0 n0 _ T1.heap _
    rw [e1]
    exact ⟨rfl, N1, rfl⟩
theorem d21_0 : decode jdk_46_method_1_code 0 = .ok (.aload_n 0, 1) := by decide +kernel
theorem d21_1 : decode jdk_46_method_1_code 1 = .ok (.invokespecial 1, 3) := by decide +kernel
theorem d21_4 : decode jdk_46_method_1_code 4 = .ok (.return_, 1) := by decide +kernel
theorem pn_5 : plainName "java/util/ImmutableCollections$AbstractImmutableList" = true := by first | (simp [plainName, overriddenIn]; done) | decide +kernel
theorem ef_21 (m : MethodId) (x0 : Addr) : entryFrame m #[(.ref x0)] 1 = mkF m 0 #[.val (.ref x0)] [] := by first | (simp [entryFrame, mkF, argsToLocals, Value.category]; done) | rfl
def Q21 (Z : State) (h0 : Heap) (n0 : Nat) (v : Option Value) (h : Heap) (L : List Loc) : Prop := v = none ∧ Fr n0 L ∧ h = h0
set_option maxRecDepth 65536 in
set_option maxHeartbeats 40000000 in
theorem rm21 (l : Launch) (Z : State) (a0 : Array Value) (hw : ∀ d ∈ tables_1, d.before a0 Z = true) (ws : List Jvm.Cond) (a1 : Addr) (h0 : Heap) (n0 : Nat) (Z0 : n0 ≤ h0.size) :
    MF l (⟨"java/util/ImmutableCollections$AbstractImmutableList", "<init>", "()V"⟩ : MethodName) jdk_46_method_1_code 1 none ws ({ frames := 3, cells := 0, slots := 0, locals := 36 } : Room) #[(.ref a1)] Z h0 (Q21 Z  h0 n0) := by
  refine MetFree.of_bodySF (plainFor_of_name pn_5) hisR ?_
  intro p e s m args below meth c s₁ Bd hml0 hP hK
  obtain ⟨rfl, hZ, hh⟩ := hP
  have hx := Bd.exec
  have hby := Bd.bytes
  have hml : c.maxLocals = 1 := hml0
  have hown : s.vm.findClass "java/util/ImmutableCollections$AbstractImmutableList" = some m.cls := findClass_of_methodNamed Bd.named
  have hnm := (name_of_methodNamed Bd.named Bd.method).1
  have X0 : Stand p l e ({ frames := 3, cells := 0, slots := 0, locals := 36 } : Room) s m #[(.ref a1)] below meth c s₁ [] 0 0 := Stand.of_body Bd
  have e0 : s₁.heap = h0 := by rw [← hh, Bd.state]; rfl
  have N0 := Fr.nil n0
  refine Goes.via (next := s₁.setTop (mkF m 0 #[.val (.ref a1)] [])) (fun t k => castTop (ef_21 m a1) k) ?_
  refine Goes.via (next := s₁.setTop (mkF m 1 #[sr a1] [(.ref a1)])) (fun t k => XS.aloadN X0.here hx rfl (hb hby d21_0) rfl rfl k) ?_
  obtain ⟨_, _, ⟨T1, L1, k1, n1⟩, -, X1, ⟨Lc1, hQ1, l1, y1, z1⟩, st1⟩ := X0.specialBack hx (y := (⟨"java/util/ImmutableCollections$AbstractImmutableCollection", "<init>", "()V"⟩ : MethodName)) rfl hown (mvT hZ (Wd hw 125 rfl)) (mvT hZ (Wd hw 126 rfl)) (mvT hZ (Wd hw 130 rfl)) (by decide) (backOf (W := 0) (rm22 l Z a0 hw [] a1  h0 n0 Z0 ) hZ (Wd hw 130 rfl) (Wd hw 129 rfl) (by decide) (by decide)) (g := (mkF m 1 #[sr a1] [(.ref a1)])) rfl (by rw [hml]; rfl) (Steps.refl _) (a := a1) (argsL := []) (rest := []) (lenOf pd_5 rfl) rfl (by show 2 * 0 + _ ≤ _; exact Nat.le_of_eq rfl) (hb hby d21_1) (fun _ _ => ⟨rfl, e0, (by decide : 0 + 0 ≤ _), (by decide : 0 + 0 ≤ _)⟩)
  dsimp only [Pt.U, Pt.locs, Pt.cells, Pt.slots] at X1 l1 y1 z1 st1 hQ1
  subst l1 y1 z1
  obtain ⟨rfl, N1q, er1⟩ := hQ1
  have e1 : T1.heap = h0 := er1
  have N1 := Fr.app N0 N1q
  refine Goes.via (next := T1.setTop (mkF m 4 #[sr a1] [])) (fun t k => st1.trans k) ?_
  obtain ⟨fs, hr, hrun, hended, hW, hsame⟩ := X1.leave (v := none) (fun _ => rfl)
  refine ⟨_, _, ?_, hrun, hended, _, _, rfl, ?_, ⟨_, rfl⟩, hW, hsame.mono (by decide) (by decide)⟩
  · exact X1.returnOut hx Bd.returns (hb hby d21_4) hr
  · show Q21 Z  h0 n0 _ T1.heap _
    rw [e1]
    exact ⟨rfl, N1, rfl⟩
theorem d11_0 : decode jdk_30_method_1_code 0 = .ok (.aload_n 0, 1) := by decide +kernel
theorem d11_1 : decode jdk_30_method_1_code 1 = .ok (.invokespecial 1, 3) := by decide +kernel
theorem d11_4 : decode jdk_30_method_1_code 4 = .ok (.return_, 1) := by decide +kernel
theorem pn_6 : plainName "java/lang/Record" = true := by first | (simp [plainName, overriddenIn]; done) | decide +kernel
theorem ef_11 (m : MethodId) (x0 : Addr) : entryFrame m #[(.ref x0)] 1 = mkF m 0 #[.val (.ref x0)] [] := by first | (simp [entryFrame, mkF, argsToLocals, Value.category]; done) | rfl
def Q11 (Z : State) (h0 : Heap) (n0 : Nat) (v : Option Value) (h : Heap) (L : List Loc) : Prop := v = none ∧ Fr n0 L ∧ h = h0
set_option maxRecDepth 65536 in
set_option maxHeartbeats 40000000 in
theorem rm11 (l : Launch) (Z : State) (a0 : Array Value) (hw : ∀ d ∈ tables_1, d.before a0 Z = true) (ws : List Jvm.Cond) (a1 : Addr) (h0 : Heap) (n0 : Nat) (Z0 : n0 ≤ h0.size) :
    MF l (⟨"java/lang/Record", "<init>", "()V"⟩ : MethodName) jdk_30_method_1_code 1 none ws ({ frames := 1, cells := 0, slots := 0, locals := 12 } : Room) #[(.ref a1)] Z h0 (Q11 Z  h0 n0) := by
  refine MetFree.of_bodySF (plainFor_of_name pn_6) hisR ?_
  intro p e s m args below meth c s₁ Bd hml0 hP hK
  obtain ⟨rfl, hZ, hh⟩ := hP
  have hx := Bd.exec
  have hby := Bd.bytes
  have hml : c.maxLocals = 1 := hml0
  have hown : s.vm.findClass "java/lang/Record" = some m.cls := findClass_of_methodNamed Bd.named
  have hnm := (name_of_methodNamed Bd.named Bd.method).1
  have X0 : Stand p l e ({ frames := 1, cells := 0, slots := 0, locals := 12 } : Room) s m #[(.ref a1)] below meth c s₁ [] 0 0 := Stand.of_body Bd
  have e0 : s₁.heap = h0 := by rw [← hh, Bd.state]; rfl
  have N0 := Fr.nil n0
  refine Goes.via (next := s₁.setTop (mkF m 0 #[.val (.ref a1)] [])) (fun t k => castTop (ef_11 m a1) k) ?_
  refine Goes.via (next := s₁.setTop (mkF m 1 #[sr a1] [(.ref a1)])) (fun t k => XS.aloadN X0.here hx rfl (hb hby d11_0) rfl rfl k) ?_
  obtain ⟨T1, X1, e1, st1⟩ := initO X0 hx hZ hown (Wd hw 58 rfl) (Wd hw 16 rfl) (Wd hw 17 rfl) e0 (g := (mkF m 1 #[sr a1] [(.ref a1)])) rfl (by rw [hml]; rfl) rfl (hb hby d11_1) (by decide) (W := 0) (by show 2 * 0 + _ ≤ _; exact Nat.le_of_eq rfl) (by decide)
  refine Goes.via (next := T1.setTop (mkF m 4 #[sr a1] [])) st1 ?_
  obtain ⟨fs, hr, hrun, hended, hW, hsame⟩ := X1.leave (v := none) (fun _ => rfl)
  refine ⟨_, _, ?_, hrun, hended, _, _, rfl, ?_, ⟨_, rfl⟩, hW, hsame.mono (by decide) (by decide)⟩
  · exact X1.returnOut hx Bd.returns (hb hby d11_4) hr
  · show Q11 Z  h0 n0 _ T1.heap _
    rw [e1]
    exact ⟨rfl, N0, rfl⟩
theorem d19_0 : decode jdk_31_method_10_code 0 = .ok (.aload_n 0, 1) := by decide +kernel
theorem d19_1 : decode jdk_31_method_10_code 1 = .ok (.ifnonnull 11, 3) := by decide +kernel
theorem d19_12 : decode jdk_31_method_10_code 12 = .ok (.aload_n 0, 1) := by decide +kernel
theorem d19_13 : decode jdk_31_method_10_code 13 = .ok (.areturn, 1) := by decide +kernel
theorem pn_7 : plainName "java/util/Objects" = true := by first | (simp [plainName, overriddenIn]; done) | decide +kernel
theorem ef_19 (m : MethodId) (x0 : Addr) : entryFrame m #[(.ref x0)] 1 = mkF m 0 #[.val (.ref x0)] [] := by first | (simp [entryFrame, mkF, argsToLocals, Value.category]; done) | rfl
def Q19 (Z : State) (a1 : Addr) (h0 : Heap) (n0 : Nat) (v : Option Value) (h : Heap) (L : List Loc) : Prop := v = some (.ref a1) ∧ Fr n0 L ∧ h = h0
set_option maxRecDepth 65536 in
set_option maxHeartbeats 40000000 in
theorem rm19 (l : Launch) (Z : State) (a0 : Array Value) (hw : ∀ d ∈ tables_1, d.before a0 Z = true) (ws : List Jvm.Cond) (a1 : Addr) (h0 : Heap) (n0 : Nat) (Z0 : n0 ≤ h0.size) :
    MF l (⟨"java/util/Objects", "requireNonNull", "(Ljava/lang/Object;)Ljava/lang/Object;"⟩ : MethodName) jdk_31_method_10_code 1 (some (.object "java/lang/Object")) ws ({ frames := 0, cells := 0, slots := 0, locals := 0 } : Room) #[(.ref a1)] Z h0 (Q19 Z a1 h0 n0) := by
  refine MetFree.of_bodySF (plainFor_of_name pn_7) hisR ?_
  intro p e s m args below meth c s₁ Bd hml0 hP hK
  obtain ⟨rfl, hZ, hh⟩ := hP
  have hx := Bd.exec
  have hby := Bd.bytes
  have hml : c.maxLocals = 1 := hml0
  have hown : s.vm.findClass "java/util/Objects" = some m.cls := findClass_of_methodNamed Bd.named
  have hnm := (name_of_methodNamed Bd.named Bd.method).1
  have X0 : Stand p l e ({ frames := 0, cells := 0, slots := 0, locals := 0 } : Room) s m #[(.ref a1)] below meth c s₁ [] 0 0 := Stand.of_body Bd
  have e0 : s₁.heap = h0 := by rw [← hh, Bd.state]; rfl
  have N0 := Fr.nil n0
  refine Goes.via (next := s₁.setTop (mkF m 0 #[.val (.ref a1)] [])) (fun t k => castTop (ef_19 m a1) k) ?_
  refine Goes.via (next := s₁.setTop (mkF m 1 #[sr a1] [(.ref a1)])) (fun t k => XS.aloadN X0.here hx rfl (hb hby d19_0) rfl rfl k) ?_
  refine Goes.via (next := s₁.setTop (mkF m 12 #[sr a1] [])) (fun t k => XS.ifnonnullYes X0.here hx rfl (pc0 := 1) (pc' := 12) rfl (hb hby d19_1) rfl (by decide) (by decide) k) ?_
  refine Goes.via (next := s₁.setTop (mkF m 13 #[sr a1] [(.ref a1)])) (fun t k => XS.aloadN X0.here hx rfl (hb hby d19_12) rfl rfl k) ?_
  obtain ⟨fs, hr, hrun, hended, hW, hsame⟩ := X0.leave (v := some (.ref a1)) (fun h => by rw [Bd.returns] at h; cases h)
  refine ⟨_, _, ?_, hrun, hended, _, _, rfl, ?_, ⟨_, rfl⟩, hW, hsame.mono (by decide) (by decide)⟩
  · exact retOut X0 hx (t := (.object "java/lang/Object")) Bd.returns rfl (Or.inr (Or.inr (Or.inr (Or.inr ⟨rfl, rfl, rfl⟩)))) (hb hby d19_13) hr
  · show Q19 Z a1 h0 n0 _ s₁.heap _
    rw [e0]
    exact ⟨rfl, N0, rfl⟩
theorem d53_0 : decode jdk_44_method_1_code 0 = .ok (.aload_n 0, 1) := by decide +kernel
theorem d53_1 : decode jdk_44_method_1_code 1 = .ok (.invokespecial 1, 3) := by decide +kernel
theorem d53_4 : decode jdk_44_method_1_code 4 = .ok (.aload_n 0, 1) := by decide +kernel
theorem d53_5 : decode jdk_44_method_1_code 5 = .ok (.aload_n 1, 1) := by decide +kernel
theorem d53_6 : decode jdk_44_method_1_code 6 = .ok (.invokestatic 7, 3) := by decide +kernel
theorem d53_9 : decode jdk_44_method_1_code 9 = .ok (.putfield 13, 3) := by decide +kernel
theorem d53_12 : decode jdk_44_method_1_code 12 = .ok (.aload_n 0, 1) := by decide +kernel
theorem d53_13 : decode jdk_44_method_1_code 13 = .ok (.getstatic 19, 3) := by decide +kernel
theorem d53_16 : decode jdk_44_method_1_code 16 = .ok (.putfield 24, 3) := by decide +kernel
theorem d53_19 : decode jdk_44_method_1_code 19 = .ok (.return_, 1) := by decide +kernel
theorem pn_8 : plainName "java/util/ImmutableCollections$List12" = true := by first | (simp [plainName, overriddenIn]; done) | decide +kernel
theorem pd_6 : parseMethodDescriptor "(Ljava/lang/Object;)Ljava/lang/Object;" = some ⟨[(.object "java/lang/Object")], some (.object "java/lang/Object")⟩ := by decide +kernel
theorem ef_53 (m : MethodId) (x0 : Addr) (x1 : Addr) : entryFrame m #[(.ref x0), (.ref x1)] 2 = mkF m 0 #[.val (.ref x0), .val (.ref x1)] [] := by first | (simp [entryFrame, mkF, argsToLocals, Value.category]; done) | rfl
def Q53 (Z : State) (a1 : Addr) (a2 : Addr) (rE : Addr) (h0 : Heap) (n0 : Nat) (v : Option Value) (h : Heap) (L : List Loc) : Prop := v = none ∧ Fr n0 L ∧ Keep h0 h [a1] ∧ Exa Z h a1 "java/util/ImmutableCollections$List12" ∧ Fld Z h a1 "java/util/ImmutableCollections$List12" "e0" "Ljava/lang/Object;" (.ref a2) ∧ Fld Z h a1 "java/util/ImmutableCollections$List12" "e1" "Ljava/lang/Object;" (.ref rE)
set_option maxRecDepth 65536 in
set_option maxHeartbeats 40000000 in
theorem rm53 (l : Launch) (Z : State) (a0 : Array Value) (hw : ∀ d ∈ tables_1, d.before a0 Z = true) (ws : List Jvm.Cond) (a1 : Addr) (a2 : Addr) (w0 : Int32) (rE rL eL : Addr) (kL : ClassId) (nZ : Nat) (h0 : Heap) (n0 : Nat) (Z0 : n0 ≤ h0.size) (E1 : Exa Z h0 a1 "java/util/ImmutableCollections$List12") (F_e0 : Fld Z h0 a1 "java/util/ImmutableCollections$List12" "e0" "Ljava/lang/Object;" .null) (F_e1 : Fld Z h0 a1 "java/util/ImmutableCollections$List12" "e1" "Ljava/lang/Object;" .null) (g1 : n0 ≤ a1) (O0 : Old Z nZ h0) (hz : nZ ≤ n0) (St : own_St Z w0 rE rL eL kL) :
    MF l (⟨"java/util/ImmutableCollections$List12", "<init>", "(Ljava/lang/Object;)V"⟩ : MethodName) jdk_44_method_1_code 2 none ws ({ frames := 4, cells := 0, slots := 0, locals := 48 } : Room) #[(.ref a1), (.ref a2)] Z h0 (Q53 Z a1 a2 rE h0 n0) := by
  refine MetFree.of_bodySF (plainFor_of_name pn_8) hisR ?_
  intro p e s m args below meth c s₁ Bd hml0 hP hK
  obtain ⟨rfl, hZ, hh⟩ := hP
  have hx := Bd.exec
  have hby := Bd.bytes
  have hml : c.maxLocals = 2 := hml0
  have hown : s.vm.findClass "java/util/ImmutableCollections$List12" = some m.cls := findClass_of_methodNamed Bd.named
  have hnm := (name_of_methodNamed Bd.named Bd.method).1
  have X0 : Stand p l e ({ frames := 4, cells := 0, slots := 0, locals := 48 } : Room) s m #[(.ref a1), (.ref a2)] below meth c s₁ [] 0 0 := Stand.of_body Bd
  have e0 : s₁.heap = h0 := by rw [← hh, Bd.state]; rfl
  have N0 := Fr.nil n0
  refine Goes.via (next := s₁.setTop (mkF m 0 #[.val (.ref a1), .val (.ref a2)] [])) (fun t k => castTop (ef_53 m a1 a2) k) ?_
  refine Goes.via (next := s₁.setTop (mkF m 1 #[sr a1, sr a2] [(.ref a1)])) (fun t k => XS.aloadN X0.here hx rfl (hb hby d53_0) rfl rfl k) ?_
  obtain ⟨_, _, ⟨T1, L1, k1, n1⟩, -, X1, ⟨Lc1, hQ1, l1, y1, z1⟩, st1⟩ := X0.specialBack hx (y := (⟨"java/util/ImmutableCollections$AbstractImmutableList", "<init>", "()V"⟩ : MethodName)) rfl hown (mvT hZ (Wd hw 288 rfl)) (mvT hZ (Wd hw 120 rfl)) (mvT hZ (Wd hw 124 rfl)) (by decide) (backOf (W := 0) (rm21 l Z a0 hw [] a1  h0 n0 Z0 ) hZ (Wd hw 124 rfl) (Wd hw 123 rfl) (by decide) (by decide)) (g := (mkF m 1 #[sr a1, sr a2] [(.ref a1)])) rfl (by rw [hml]; rfl) (Steps.refl _) (a := a1) (argsL := []) (rest := []) (lenOf pd_5 rfl) rfl (by show 2 * 0 + _ ≤ _; exact Nat.le_of_eq rfl) (hb hby d53_1) (fun _ _ => ⟨rfl, e0, (by decide : 0 + 0 ≤ _), (by decide : 0 + 0 ≤ _)⟩)
  dsimp only [Pt.U, Pt.locs, Pt.cells, Pt.slots] at X1 l1 y1 z1 st1 hQ1
  subst l1 y1 z1
  obtain ⟨rfl, N1q, er1⟩ := hQ1
  have e1 : T1.heap = h0 := er1
  have N1 := Fr.app N0 N1q
  refine Goes.via (next := T1.setTop (mkF m 4 #[sr a1, sr a2] [])) (fun t k => st1.trans k) ?_
  refine Goes.via (next := T1.setTop (mkF m 6 #[sr a1, sr a2] [(.ref a2), (.ref a1)])) (fun t k => XS.aloadN X1.here hx rfl (hb hby d53_4) rfl rfl (XS.aloadN X1.here hx rfl (hb hby d53_5) rfl rfl k)) ?_
  obtain ⟨Lw2, X2w, N2w⟩ := ownPack X1 N1
  obtain ⟨_, _, ⟨T3, L3, k3, n3⟩, -, X3, ⟨Lc3, hQ3, l3, y3, z3⟩, st3⟩ := Jvm.LawKit.callS X2w hx (y := (⟨"java/util/Objects", "requireNonNull", "(Ljava/lang/Object;)Ljava/lang/Object;"⟩ : MethodName)) hown (mvT hZ (Wd hw 292 rfl)) (mvT hZ (Wd hw 109 rfl)) (mvT hZ (Wd hw 110 rfl)) (mvT hZ (Wd hw 111 rfl)) (by decide) (backOf (W := 1) (rm19 l Z a0 hw [] a2  h0 n0 Z0 ) hZ (Wd hw 111 rfl) (Wd hw 110 rfl) (by decide) (by decide)) (g := (mkF m 6 #[sr a1, sr a2] [(.ref a2), (.ref a1)])) rfl (by rw [hml]; rfl) (argsL := [(.ref a2)]) (rest := [(.ref a1)]) (lenOf pd_6 rfl) rfl (by show 2 * 0 + _ ≤ _; exact Nat.le_of_eq rfl) (hb hby d53_6) (fun _ _ => ⟨rfl, e1, (by decide : 0 + 0 ≤ _), (by decide : 0 + 0 ≤ _)⟩)
  dsimp only [Pt.U, Pt.locs, Pt.cells, Pt.slots] at X3 l3 y3 z3 st3 hQ3
  subst l3 y3 z3
  obtain ⟨rfl, N3q, er3⟩ := hQ3
  have e3 : T3.heap = h0 := er3
  have N3 := Fr.app N2w N3q
  refine Goes.via (next := T3.setTop (mkF m 9 #[sr a1, sr a2] [(.ref a2), (.ref a1)])) st3 ?_
  obtain ⟨T4, h4, X4, e4, W4, st4⟩ := putF X3 hx hZ hown (host := "") (Or.inl (Wd hw 293 rfl)) Via.refl e3 F_e0 E1 (Or.inr ⟨(Wd hw 294 rfl), rfl, hnm⟩) (Wd hw 282 rfl) (ty := (.object "java/lang/Object")) (by decide) rfl rfl (g := (mkF m 9 #[sr a1, sr a2] [(.ref a2), (.ref a1)])) rfl rfl (hb hby d53_9)
  have Fw4 := F_e0.same W4
  have F4_19 := E1.wr W4
  have F4_20 := F_e1.other W4 (Or.inr (slot_ne (Or.inr (Wd hw 296 rfl)) (Or.inr (Wd hw 294 rfl)) (by decide) (t := (.object "java/lang/Object")) (t' := (.object "java/lang/Object")) (by decide) (by decide)))
  have K4 : Keep h0 h4 [a1] := (Keep.refl h0 [a1]).wr W4 (Or.inl (List.mem_of_getElem? (i := 0) rfl))
  have Z4 : n0 ≤ h4.size := Nat.le_trans Z0 (Keep.of_wr W4).1
  have N4 := Fr.snoc X4 N3 g1
  have O4 := O0.wr W4 (Nat.le_trans hz g1)
  refine Goes.via (next := T4.setTop (mkF m 12 #[sr a1, sr a2] [])) st4 ?_
  refine Goes.via (next := T4.setTop (mkF m 13 #[sr a1, sr a2] [(.ref a1)])) (fun t k => XS.aloadN X4.here hx rfl (hb hby d53_12) rfl rfl k) ?_
  obtain ⟨T5, X5, e5, st5⟩ := getS2 X4 hx hZ hown (Or.inr (Wd hw 303 rfl)) Via.refl e4 (St.2.2.1.ext O4.2) (g := (mkF m 13 #[sr a1, sr a2] [(.ref a1)])) rfl (hb hby d53_13)
  refine Goes.via (next := T5.setTop (mkF m 16 #[sr a1, sr a2] [(.ref rE), (.ref a1)])) st5 ?_
  obtain ⟨T6, h6, X6, e6, W6, st6⟩ := putF X5 hx hZ hown (host := "") (Or.inl (Wd hw 295 rfl)) Via.refl e5 F4_20 F4_19 (Or.inr ⟨(Wd hw 296 rfl), rfl, hnm⟩) (Wd hw 282 rfl) (ty := (.object "java/lang/Object")) (by decide) rfl rfl (g := (mkF m 16 #[sr a1, sr a2] [(.ref rE), (.ref a1)])) rfl rfl (hb hby d53_16)
  have Fw6 := F4_20.same W6
  have F6_31 := F4_19.wr W6
  have F6_32 := Fw4.other W6 (Or.inr (slot_ne (Or.inr (Wd hw 294 rfl)) (Or.inr (Wd hw 296 rfl)) (by decide) (t := (.object "java/lang/Object")) (t' := (.object "java/lang/Object")) (by decide) (by decide)))
  have K6 : Keep h0 h6 [a1] := K4.wr W6 (Or.inl (List.mem_of_getElem? (i := 0) rfl))
  have Z6 : n0 ≤ h6.size := Nat.le_trans Z4 (Keep.of_wr W6).1
  have N6 := Fr.snoc X6 N4 g1
  have O6 := O4.wr W6 (Nat.le_trans hz g1)
  refine Goes.via (next := T6.setTop (mkF m 19 #[sr a1, sr a2] [])) st6 ?_
  obtain ⟨fs, hr, hrun, hended, hW, hsame⟩ := X6.leave (v := none) (fun _ => rfl)
  refine ⟨_, _, ?_, hrun, hended, _, _, rfl, ?_, ⟨_, rfl⟩, hW, hsame.mono (by decide) (by decide)⟩
  · exact X6.returnOut hx Bd.returns (hb hby d53_19) hr
  · show Q53 Z a1 a2 rE h0 n0 _ T6.heap _
    rw [e6]
    exact ⟨rfl, N6, K6, F6_31, F6_32, Fw6⟩
theorem d50_0 : decode jdk_44_method_2_code 0 = .ok (.aload_n 0, 1) := by decide +kernel
theorem d50_1 : decode jdk_44_method_2_code 1 = .ok (.invokespecial 1, 3) := by decide +kernel
theorem d50_4 : decode jdk_44_method_2_code 4 = .ok (.aload_n 0, 1) := by decide +kernel
theorem d50_5 : decode jdk_44_method_2_code 5 = .ok (.aload_n 1, 1) := by decide +kernel
theorem d50_6 : decode jdk_44_method_2_code 6 = .ok (.invokestatic 7, 3) := by decide +kernel
theorem d50_9 : decode jdk_44_method_2_code 9 = .ok (.putfield 13, 3) := by decide +kernel
theorem d50_12 : decode jdk_44_method_2_code 12 = .ok (.aload_n 0, 1) := by decide +kernel
theorem d50_13 : decode jdk_44_method_2_code 13 = .ok (.aload_n 2, 1) := by decide +kernel
theorem d50_14 : decode jdk_44_method_2_code 14 = .ok (.invokestatic 7, 3) := by decide +kernel
theorem d50_17 : decode jdk_44_method_2_code 17 = .ok (.putfield 24, 3) := by decide +kernel
theorem d50_20 : decode jdk_44_method_2_code 20 = .ok (.return_, 1) := by decide +kernel
theorem ef_50 (m : MethodId) (x0 : Addr) (x1 : Addr) (x2 : Addr) : entryFrame m #[(.ref x0), (.ref x1), (.ref x2)] 3 = mkF m 0 #[.val (.ref x0), .val (.ref x1), .val (.ref x2)] [] := by first | (simp [entryFrame, mkF, argsToLocals, Value.category]; done) | rfl
def Q50 (Z : State) (a1 : Addr) (a2 : Addr) (a3 : Addr)  (h0 : Heap) (n0 : Nat) (v : Option Value) (h : Heap) (L : List Loc) : Prop := v = none ∧ Fr n0 L ∧ Keep h0 h [a1] ∧ Exa Z h a1 "java/util/ImmutableCollections$List12" ∧ Fld Z h a1 "java/util/ImmutableCollections$List12" "e0" "Ljava/lang/Object;" (.ref a2) ∧ Fld Z h a1 "java/util/ImmutableCollections$List12" "e1" "Ljava/lang/Object;" (.ref a3)
set_option maxRecDepth 65536 in
set_option maxHeartbeats 40000000 in
theorem rm50 (l : Launch) (Z : State) (a0 : Array Value) (hw : ∀ d ∈ tables_1, d.before a0 Z = true) (ws : List Jvm.Cond) (a1 : Addr) (a2 : Addr) (a3 : Addr) (h0 : Heap) (n0 : Nat) (Z0 : n0 ≤ h0.size) (E1 : Exa Z h0 a1 "java/util/ImmutableCollections$List12") (F_e0 : Fld Z h0 a1 "java/util/ImmutableCollections$List12" "e0" "Ljava/lang/Object;" .null) (F_e1 : Fld Z h0 a1 "java/util/ImmutableCollections$List12" "e1" "Ljava/lang/Object;" .null) (g1 : n0 ≤ a1) :
    MF l (⟨"java/util/ImmutableCollections$List12", "<init>", "(Ljava/lang/Object;Ljava/lang/Object;)V"⟩ : MethodName) jdk_44_method_2_code 3 none ws ({ frames := 4, cells := 0, slots := 0, locals := 48 } : Room) #[(.ref a1), (.ref a2), (.ref a3)] Z h0 (Q50 Z a1 a2 a3 h0 n0) := by
  refine MetFree.of_bodySF (plainFor_of_name pn_8) hisR ?_
  intro p e s m args below meth c s₁ Bd hml0 hP hK
  obtain ⟨rfl, hZ, hh⟩ := hP
  have hx := Bd.exec
  have hby := Bd.bytes
  have hml : c.maxLocals = 3 := hml0
  have hown : s.vm.findClass "java/util/ImmutableCollections$List12" = some m.cls := findClass_of_methodNamed Bd.named
  have hnm := (name_of_methodNamed Bd.named Bd.method).1
  have X0 : Stand p l e ({ frames := 4, cells := 0, slots := 0, locals := 48 } : Room) s m #[(.ref a1), (.ref a2), (.ref a3)] below meth c s₁ [] 0 0 := Stand.of_body Bd
  have e0 : s₁.heap = h0 := by rw [← hh, Bd.state]; rfl
  have N0 := Fr.nil n0
  refine Goes.via (next := s₁.setTop (mkF m 0 #[.val (.ref a1), .val (.ref a2), .val (.ref a3)] [])) (fun t k => castTop (ef_50 m a1 a2 a3) k) ?_
  refine Goes.via (next := s₁.setTop (mkF m 1 #[sr a1, sr a2, sr a3] [(.ref a1)])) (fun t k => XS.aloadN X0.here hx rfl (hb hby d50_0) rfl rfl k) ?_
  obtain ⟨_, _, ⟨T1, L1, k1, n1⟩, -, X1, ⟨Lc1, hQ1, l1, y1, z1⟩, st1⟩ := X0.specialBack hx (y := (⟨"java/util/ImmutableCollections$AbstractImmutableList", "<init>", "()V"⟩ : MethodName)) rfl hown (mvT hZ (Wd hw 288 rfl)) (mvT hZ (Wd hw 120 rfl)) (mvT hZ (Wd hw 124 rfl)) (by decide) (backOf (W := 0) (rm21 l Z a0 hw [] a1  h0 n0 Z0 ) hZ (Wd hw 124 rfl) (Wd hw 123 rfl) (by decide) (by decide)) (g := (mkF m 1 #[sr a1, sr a2, sr a3] [(.ref a1)])) rfl (by rw [hml]; rfl) (Steps.refl _) (a := a1) (argsL := []) (rest := []) (lenOf pd_5 rfl) rfl (by show 2 * 0 + _ ≤ _; exact Nat.le_of_eq rfl) (hb hby d50_1) (fun _ _ => ⟨rfl, e0, (by decide : 0 + 0 ≤ _), (by decide : 0 + 0 ≤ _)⟩)
  dsimp only [Pt.U, Pt.locs, Pt.cells, Pt.slots] at X1 l1 y1 z1 st1 hQ1
  subst l1 y1 z1
  obtain ⟨rfl, N1q, er1⟩ := hQ1
  have e1 : T1.heap = h0 := er1
  have N1 := Fr.app N0 N1q
  refine Goes.via (next := T1.setTop (mkF m 4 #[sr a1, sr a2, sr a3] [])) (fun t k => st1.trans k) ?_
  refine Goes.via (next := T1.setTop (mkF m 6 #[sr a1, sr a2, sr a3] [(.ref a2), (.ref a1)])) (fun t k => XS.aloadN X1.here hx rfl (hb hby d50_4) rfl rfl (XS.aloadN X1.here hx rfl (hb hby d50_5) rfl rfl k)) ?_
  obtain ⟨Lw2, X2w, N2w⟩ := ownPack X1 N1
  obtain ⟨_, _, ⟨T3, L3, k3, n3⟩, -, X3, ⟨Lc3, hQ3, l3, y3, z3⟩, st3⟩ := Jvm.LawKit.callS X2w hx (y := (⟨"java/util/Objects", "requireNonNull", "(Ljava/lang/Object;)Ljava/lang/Object;"⟩ : MethodName)) hown (mvT hZ (Wd hw 292 rfl)) (mvT hZ (Wd hw 109 rfl)) (mvT hZ (Wd hw 110 rfl)) (mvT hZ (Wd hw 111 rfl)) (by decide) (backOf (W := 1) (rm19 l Z a0 hw [] a2  h0 n0 Z0 ) hZ (Wd hw 111 rfl) (Wd hw 110 rfl) (by decide) (by decide)) (g := (mkF m 6 #[sr a1, sr a2, sr a3] [(.ref a2), (.ref a1)])) rfl (by rw [hml]; rfl) (argsL := [(.ref a2)]) (rest := [(.ref a1)]) (lenOf pd_6 rfl) rfl (by show 2 * 0 + _ ≤ _; exact Nat.le_of_eq rfl) (hb hby d50_6) (fun _ _ => ⟨rfl, e1, (by decide : 0 + 0 ≤ _), (by decide : 0 + 0 ≤ _)⟩)
  dsimp only [Pt.U, Pt.locs, Pt.cells, Pt.slots] at X3 l3 y3 z3 st3 hQ3
  subst l3 y3 z3
  obtain ⟨rfl, N3q, er3⟩ := hQ3
  have e3 : T3.heap = h0 := er3
  have N3 := Fr.app N2w N3q
  refine Goes.via (next := T3.setTop (mkF m 9 #[sr a1, sr a2, sr a3] [(.ref a2), (.ref a1)])) st3 ?_
  obtain ⟨T4, h4, X4, e4, W4, st4⟩ := putF X3 hx hZ hown (host := "") (Or.inl (Wd hw 293 rfl)) Via.refl e3 F_e0 E1 (Or.inr ⟨(Wd hw 294 rfl), rfl, hnm⟩) (Wd hw 282 rfl) (ty := (.object "java/lang/Object")) (by decide) rfl rfl (g := (mkF m 9 #[sr a1, sr a2, sr a3] [(.ref a2), (.ref a1)])) rfl rfl (hb hby d50_9)
  have Fw4 := F_e0.same W4
  have F4_19 := E1.wr W4
  have F4_20 := F_e1.other W4 (Or.inr (slot_ne (Or.inr (Wd hw 296 rfl)) (Or.inr (Wd hw 294 rfl)) (by decide) (t := (.object "java/lang/Object")) (t' := (.object "java/lang/Object")) (by decide) (by decide)))
  have K4 : Keep h0 h4 [a1] := (Keep.refl h0 [a1]).wr W4 (Or.inl (List.mem_of_getElem? (i := 0) rfl))
  have Z4 : n0 ≤ h4.size := Nat.le_trans Z0 (Keep.of_wr W4).1
  have N4 := Fr.snoc X4 N3 g1
  refine Goes.via (next := T4.setTop (mkF m 12 #[sr a1, sr a2, sr a3] [])) st4 ?_
  refine Goes.via (next := T4.setTop (mkF m 14 #[sr a1, sr a2, sr a3] [(.ref a3), (.ref a1)])) (fun t k => XS.aloadN X4.here hx rfl (hb hby d50_12) rfl rfl (XS.aloadN X4.here hx rfl (hb hby d50_13) rfl rfl k)) ?_
  obtain ⟨Lw5, X5w, N5w⟩ := ownPack X4 N4
  obtain ⟨_, _, ⟨T6, L6, k6, n6⟩, -, X6, ⟨Lc6, hQ6, l6, y6, z6⟩, st6⟩ := Jvm.LawKit.callS X5w hx (y := (⟨"java/util/Objects", "requireNonNull", "(Ljava/lang/Object;)Ljava/lang/Object;"⟩ : MethodName)) hown (mvT hZ (Wd hw 292 rfl)) (mvT hZ (Wd hw 109 rfl)) (mvT hZ (Wd hw 110 rfl)) (mvT hZ (Wd hw 111 rfl)) (by decide) (backOf (W := 1) (rm19 l Z a0 hw [] a3  h4 n0 Z4 ) hZ (Wd hw 111 rfl) (Wd hw 110 rfl) (by decide) (by decide)) (g := (mkF m 14 #[sr a1, sr a2, sr a3] [(.ref a3), (.ref a1)])) rfl (by rw [hml]; rfl) (argsL := [(.ref a3)]) (rest := [(.ref a1)]) (lenOf pd_6 rfl) rfl (by show 2 * 0 + _ ≤ _; exact Nat.le_of_eq rfl) (hb hby d50_14) (fun _ _ => ⟨rfl, e4, (by decide : 0 + 0 ≤ _), (by decide : 0 + 0 ≤ _)⟩)
  dsimp only [Pt.U, Pt.locs, Pt.cells, Pt.slots] at X6 l6 y6 z6 st6 hQ6
  subst l6 y6 z6
  obtain ⟨rfl, N6q, er6⟩ := hQ6
  have e6 : T6.heap = h4 := er6
  have N6 := Fr.app N5w N6q
  refine Goes.via (next := T6.setTop (mkF m 17 #[sr a1, sr a2, sr a3] [(.ref a3), (.ref a1)])) st6 ?_
  obtain ⟨T7, h7, X7, e7, W7, st7⟩ := putF X6 hx hZ hown (host := "") (Or.inl (Wd hw 295 rfl)) Via.refl e6 F4_20 F4_19 (Or.inr ⟨(Wd hw 296 rfl), rfl, hnm⟩) (Wd hw 282 rfl) (ty := (.object "java/lang/Object")) (by decide) rfl rfl (g := (mkF m 17 #[sr a1, sr a2, sr a3] [(.ref a3), (.ref a1)])) rfl rfl (hb hby d50_17)
  have Fw7 := F4_20.same W7
  have F7_36 := F4_19.wr W7
  have F7_37 := Fw4.other W7 (Or.inr (slot_ne (Or.inr (Wd hw 294 rfl)) (Or.inr (Wd hw 296 rfl)) (by decide) (t := (.object "java/lang/Object")) (t' := (.object "java/lang/Object")) (by decide) (by decide)))
  have K7 : Keep h0 h7 [a1] := K4.wr W7 (Or.inl (List.mem_of_getElem? (i := 0) rfl))
  have Z7 : n0 ≤ h7.size := Nat.le_trans Z4 (Keep.of_wr W7).1
  have N7 := Fr.snoc X7 N6 g1
  refine Goes.via (next := T7.setTop (mkF m 20 #[sr a1, sr a2, sr a3] [])) st7 ?_
  obtain ⟨fs, hr, hrun, hended, hW, hsame⟩ := X7.leave (v := none) (fun _ => rfl)
  refine ⟨_, _, ?_, hrun, hended, _, _, rfl, ?_, ⟨_, rfl⟩, hW, hsame.mono (by decide) (by decide)⟩
  · exact X7.returnOut hx Bd.returns (hb hby d50_20) hr
  · show Q50 Z a1 a2 a3 h0 n0 _ T7.heap _
    rw [e7]
    exact ⟨rfl, N7, K7, F7_36, F7_37, Fw7⟩
theorem d20_0 : decode jdk_45_method_1_code 0 = .ok (.aload_n 0, 1) := by decide +kernel
theorem d20_1 : decode jdk_45_method_1_code 1 = .ok (.invokespecial 1, 3) := by decide +kernel
theorem d20_4 : decode jdk_45_method_1_code 4 = .ok (.aload_n 0, 1) := by decide +kernel
theorem d20_5 : decode jdk_45_method_1_code 5 = .ok (.aload_n 1, 1) := by decide +kernel
theorem d20_6 : decode jdk_45_method_1_code 6 = .ok (.putfield 7, 3) := by decide +kernel
theorem d20_9 : decode jdk_45_method_1_code 9 = .ok (.aload_n 0, 1) := by decide +kernel
theorem d20_10 : decode jdk_45_method_1_code 10 = .ok (.iload_n 2, 1) := by decide +kernel
theorem d20_11 : decode jdk_45_method_1_code 11 = .ok (.putfield 13, 3) := by decide +kernel
theorem d20_14 : decode jdk_45_method_1_code 14 = .ok (.return_, 1) := by decide +kernel
theorem pn_9 : plainName "java/util/ImmutableCollections$ListN" = true := by first | (simp [plainName, overriddenIn]; done) | decide +kernel
theorem ef_20 (m : MethodId) (x0 : Addr) (x1 : Addr) (x2 : Int32) : entryFrame m #[(.ref x0), (.ref x1), (.int x2)] 3 = mkF m 0 #[.val (.ref x0), .val (.ref x1), .val (.int x2)] [] := by first | (simp [entryFrame, mkF, argsToLocals, Value.category]; done) | rfl
def Q20 (Z : State) (a1 : Addr) (a2 : Addr) (p3 : Int32)  (h0 : Heap) (n0 : Nat) (v : Option Value) (h : Heap) (L : List Loc) : Prop := v = none ∧ Fr n0 L ∧ Keep h0 h [a1] ∧ Exa Z h a1 "java/util/ImmutableCollections$ListN" ∧ Fld Z h a1 "java/util/ImmutableCollections$ListN" "elements" "[Ljava/lang/Object;" (.ref a2) ∧ Fld Z h a1 "java/util/ImmutableCollections$ListN" "allowNulls" "Z" (.int (nar .boolean p3))
set_option maxRecDepth 65536 in
set_option maxHeartbeats 40000000 in
theorem rm20 (l : Launch) (Z : State) (a0 : Array Value) (hw : ∀ d ∈ tables_1, d.before a0 Z = true) (ws : List Jvm.Cond) (a1 : Addr) (a2 : Addr) (p3 : Int32) (h0 : Heap) (n0 : Nat) (Z0 : n0 ≤ h0.size) (E1 : Exa Z h0 a1 "java/util/ImmutableCollections$ListN") (F_elements : Fld Z h0 a1 "java/util/ImmutableCollections$ListN" "elements" "[Ljava/lang/Object;" .null) (F_allowNulls : Fld Z h0 a1 "java/util/ImmutableCollections$ListN" "allowNulls" "Z" (.int (0 : Int32))) (g1 : n0 ≤ a1) :
    MF l (⟨"java/util/ImmutableCollections$ListN", "<init>", "([Ljava/lang/Object;Z)V"⟩ : MethodName) jdk_45_method_1_code 3 none ws ({ frames := 4, cells := 0, slots := 0, locals := 48 } : Room) #[(.ref a1), (.ref a2), (.int p3)] Z h0 (Q20 Z a1 a2 p3 h0 n0) := by
  refine MetFree.of_bodySF (plainFor_of_name pn_9) hisR ?_
  intro p e s m args below meth c s₁ Bd hml0 hP hK
  obtain ⟨rfl, hZ, hh⟩ := hP
  have hx := Bd.exec
  have hby := Bd.bytes
  have hml : c.maxLocals = 3 := hml0
  have hown : s.vm.findClass "java/util/ImmutableCollections$ListN" = some m.cls := findClass_of_methodNamed Bd.named
  have hnm := (name_of_methodNamed Bd.named Bd.method).1
  have X0 : Stand p l e ({ frames := 4, cells := 0, slots := 0, locals := 48 } : Room) s m #[(.ref a1), (.ref a2), (.int p3)] below meth c s₁ [] 0 0 := Stand.of_body Bd
  have e0 : s₁.heap = h0 := by rw [← hh, Bd.state]; rfl
  have N0 := Fr.nil n0
  refine Goes.via (next := s₁.setTop (mkF m 0 #[.val (.ref a1), .val (.ref a2), .val (.int p3)] [])) (fun t k => castTop (ef_20 m a1 a2 p3) k) ?_
  refine Goes.via (next := s₁.setTop (mkF m 1 #[sr a1, sr a2, si p3] [(.ref a1)])) (fun t k => XS.aloadN X0.here hx rfl (hb hby d20_0) rfl rfl k) ?_
  obtain ⟨_, _, ⟨T1, L1, k1, n1⟩, -, X1, ⟨Lc1, hQ1, l1, y1, z1⟩, st1⟩ := X0.specialBack hx (y := (⟨"java/util/ImmutableCollections$AbstractImmutableList", "<init>", "()V"⟩ : MethodName)) rfl hown (mvT hZ (Wd hw 119 rfl)) (mvT hZ (Wd hw 120 rfl)) (mvT hZ (Wd hw 124 rfl)) (by decide) (backOf (W := 0) (rm21 l Z a0 hw [] a1  h0 n0 Z0 ) hZ (Wd hw 124 rfl) (Wd hw 123 rfl) (by decide) (by decide)) (g := (mkF m 1 #[sr a1, sr a2, si p3] [(.ref a1)])) rfl (by rw [hml]; rfl) (Steps.refl _) (a := a1) (argsL := []) (rest := []) (lenOf pd_5 rfl) rfl (by show 2 * 0 + _ ≤ _; exact Nat.le_of_eq rfl) (hb hby d20_1) (fun _ _ => ⟨rfl, e0, (by decide : 0 + 0 ≤ _), (by decide : 0 + 0 ≤ _)⟩)
  dsimp only [Pt.U, Pt.locs, Pt.cells, Pt.slots] at X1 l1 y1 z1 st1 hQ1
  subst l1 y1 z1
  obtain ⟨rfl, N1q, er1⟩ := hQ1
  have e1 : T1.heap = h0 := er1
  have N1 := Fr.app N0 N1q
  refine Goes.via (next := T1.setTop (mkF m 4 #[sr a1, sr a2, si p3] [])) (fun t k => st1.trans k) ?_
  refine Goes.via (next := T1.setTop (mkF m 6 #[sr a1, sr a2, si p3] [(.ref a2), (.ref a1)])) (fun t k => XS.aloadN X1.here hx rfl (hb hby d20_4) rfl rfl (XS.aloadN X1.here hx rfl (hb hby d20_5) rfl rfl k)) ?_
  obtain ⟨T2, h2, X2, e2, W2, st2⟩ := putF X1 hx hZ hown (host := "") (Or.inl (Wd hw 80 rfl)) Via.refl e1 F_elements E1 (Or.inr ⟨(Wd hw 81 rfl), rfl, hnm⟩) (Wd hw 114 rfl) (ty := (.array (.object "java/lang/Object"))) (by decide) rfl rfl (g := (mkF m 6 #[sr a1, sr a2, si p3] [(.ref a2), (.ref a1)])) rfl rfl (hb hby d20_6)
  have Fw2 := F_elements.same W2
  have F2_11 := E1.wr W2
  have F2_12 := F_allowNulls.other W2 (Or.inr (slot_ne (Or.inr (Wd hw 139 rfl)) (Or.inr (Wd hw 81 rfl)) (by decide) (t := .boolean) (t' := (.array (.object "java/lang/Object"))) (by decide) (by decide)))
  have K2 : Keep h0 h2 [a1] := (Keep.refl h0 [a1]).wr W2 (Or.inl (List.mem_of_getElem? (i := 0) rfl))
  have Z2 : n0 ≤ h2.size := Nat.le_trans Z0 (Keep.of_wr W2).1
  have N2 := Fr.snoc X2 N1 g1
  refine Goes.via (next := T2.setTop (mkF m 9 #[sr a1, sr a2, si p3] [])) st2 ?_
  refine Goes.via (next := T2.setTop (mkF m 11 #[sr a1, sr a2, si p3] [(.int p3), (.ref a1)])) (fun t k => XS.aloadN X2.here hx rfl (hb hby d20_9) rfl rfl (XS.iloadN X2.here hx rfl (hb hby d20_10) rfl k)) ?_
  obtain ⟨T3, h3, X3, e3, W3, st3⟩ := putFN X2 hx hZ hown (Wd hw 138 rfl) Via.refl e2 F2_12 F2_11 (Or.inr ⟨(Wd hw 139 rfl), rfl, hnm⟩) (Wd hw 114 rfl) (ty := .boolean) (v' := (.int (nar .boolean p3))) (by decide) rfl (fits_nar_bool _) (g := (mkF m 11 #[sr a1, sr a2, si p3] [(.int p3), (.ref a1)])) rfl rfl (hb hby d20_11)
  have Fw3 := F2_12.same W3
  have F3_20 := F2_11.wr W3
  have F3_21 := Fw2.other W3 (Or.inr (slot_ne (Or.inr (Wd hw 81 rfl)) (Or.inr (Wd hw 139 rfl)) (by decide) (t := (.array (.object "java/lang/Object"))) (t' := .boolean) (by decide) (by decide)))
  have K3 : Keep h0 h3 [a1] := K2.wr W3 (Or.inl (List.mem_of_getElem? (i := 0) rfl))
  have Z3 : n0 ≤ h3.size := Nat.le_trans Z2 (Keep.of_wr W3).1
  have N3 := Fr.snoc X3 N2 g1
  refine Goes.via (next := T3.setTop (mkF m 14 #[sr a1, sr a2, si p3] [])) st3 ?_
  obtain ⟨fs, hr, hrun, hended, hW, hsame⟩ := X3.leave (v := none) (fun _ => rfl)
  refine ⟨_, _, ?_, hrun, hended, _, _, rfl, ?_, ⟨_, rfl⟩, hW, hsame.mono (by decide) (by decide)⟩
  · exact X3.returnOut hx Bd.returns (hb hby d20_14) hr
  · show Q20 Z a1 a2 p3 h0 n0 _ T3.heap _
    rw [e3]
    exact ⟨rfl, N3, K3, F3_20, F3_21, Fw3⟩
theorem d18_0 : decode jdk_56_method_4_code 0 = .ok (.aload_n 0, 1) := by decide +kernel
theorem d18_1 : decode jdk_56_method_4_code 1 = .ok (.arraylength, 1) := by decide +kernel
theorem d18_2 : decode jdk_56_method_4_code 2 = .ok (.anewarray 2, 3) := by decide +kernel
theorem d18_5 : decode jdk_56_method_4_code 5 = .ok (.astore_n 1, 1) := by decide +kernel
theorem d18_6 : decode jdk_56_method_4_code 6 = .ok (.iconst 0, 1) := by decide +kernel
theorem d18_7 : decode jdk_56_method_4_code 7 = .ok (.istore_n 2, 1) := by decide +kernel
theorem d18_8 : decode jdk_56_method_4_code 8 = .ok (.iload_n 2, 1) := by decide +kernel
theorem d18_9 : decode jdk_56_method_4_code 9 = .ok (.aload_n 0, 1) := by decide +kernel
theorem d18_10 : decode jdk_56_method_4_code 10 = .ok (.arraylength, 1) := by decide +kernel
theorem d18_11 : decode jdk_56_method_4_code 11 = .ok (.if_icmp .ge 18, 3) := by decide +kernel
theorem d18_14 : decode jdk_56_method_4_code 14 = .ok (.aload_n 1, 1) := by decide +kernel
theorem d18_15 : decode jdk_56_method_4_code 15 = .ok (.iload_n 2, 1) := by decide +kernel
theorem d18_16 : decode jdk_56_method_4_code 16 = .ok (.aload_n 0, 1) := by decide +kernel
theorem d18_17 : decode jdk_56_method_4_code 17 = .ok (.iload_n 2, 1) := by decide +kernel
theorem d18_18 : decode jdk_56_method_4_code 18 = .ok (.aaload, 1) := by decide +kernel
theorem d18_19 : decode jdk_56_method_4_code 19 = .ok (.invokestatic 37, 3) := by decide +kernel
theorem d18_22 : decode jdk_56_method_4_code 22 = .ok (.aastore, 1) := by decide +kernel
theorem d18_23 : decode jdk_56_method_4_code 23 = .ok (.iinc 2 1, 3) := by decide +kernel
theorem d18_26 : decode jdk_56_method_4_code 26 = .ok (.goto (-18), 3) := by decide +kernel
theorem d18_29 : decode jdk_56_method_4_code 29 = .ok (.new 12, 3) := by decide +kernel
theorem d18_32 : decode jdk_56_method_4_code 32 = .ok (.dup, 1) := by decide +kernel
theorem d18_33 : decode jdk_56_method_4_code 33 = .ok (.aload_n 1, 1) := by decide +kernel
theorem d18_34 : decode jdk_56_method_4_code 34 = .ok (.iconst 0, 1) := by decide +kernel
theorem d18_35 : decode jdk_56_method_4_code 35 = .ok (.invokespecial 43, 3) := by decide +kernel
theorem d18_38 : decode jdk_56_method_4_code 38 = .ok (.areturn, 1) := by decide +kernel
theorem pn_10 : plainName "java/util/ImmutableCollections" = true := by first | (simp [plainName, overriddenIn]; done) | decide +kernel
theorem pd_7 : parseMethodDescriptor "([Ljava/lang/Object;Z)V" = some ⟨[(.array (.object "java/lang/Object")), .boolean], none⟩ := by decide +kernel
theorem ef_18 (m : MethodId) (x0 : Addr) : entryFrame m #[(.ref x0)] 3 = mkF m 0 #[.val (.ref x0), .unset, .unset] [] := by first | (simp [entryFrame, mkF, argsToLocals, Value.category]; done) | rfl
def Q18 (Z : State) (ua ub uc : Addr) (h0 : Heap) (n0 : Nat) (v : Option Value) (h : Heap) (L : List Loc) : Prop := ∃ (r q : Addr) (k : ClassId), v = some (.ref r) ∧ Fr n0 L ∧ n0 ≤ r ∧ h0.size ≤ r ∧ h0.size ≤ q ∧ Keep h0 h [] ∧ Exa Z h r "java/util/ImmutableCollections$ListN" ∧ Fld Z h r "java/util/ImmutableCollections$ListN" "elements" "[Ljava/lang/Object;" (.ref q) ∧ Arv Z h q k (.object "java/lang/Object") (3 : Int32) [.ref ua, .ref ub, .ref uc] .null
set_option maxRecDepth 65536 in
set_option maxHeartbeats 40000000 in
theorem rm18 (l : Launch) (Z : State) (a0 : Array Value) (hw : ∀ d ∈ tables_1, d.before a0 Z = true) (ws : List Jvm.Cond) (a1 : Addr) (ua ub uc : Addr) (k1 : ClassId) (w0 : Int32) (rE rL eL : Addr) (kL : ClassId) (nZ : Nat) (h0 : Heap) (n0 : Nat) (Z0 : n0 ≤ h0.size) (V1 : Arv Z h0 a1 k1 (.object "java/lang/String") (3 : Int32) [.ref ua, .ref ub, .ref uc] .null) (Xua : Exa Z h0 ua "java/lang/String") (Xub : Exa Z h0 ub "java/lang/String") (Xuc : Exa Z h0 uc "java/lang/String") (O0 : Old Z nZ h0) (hz : nZ ≤ n0) (St : own_St Z w0 rE rL eL kL) :
    MF l (⟨"java/util/ImmutableCollections", "listFromArray", "([Ljava/lang/Object;)Ljava/util/List;"⟩ : MethodName) jdk_56_method_4_code 3 (some (.object "java/util/List")) ws ({ frames := 5, cells := 2, slots := 5, locals := 63 } : Room) #[(.ref a1)] Z h0 (Q18 Z ua ub uc h0 n0) := by
  refine MetFree.of_bodySF (plainFor_of_name pn_10) hisR ?_
  intro p e s m args below meth c s₁ Bd hml0 hP hK
  obtain ⟨rfl, hZ, hh⟩ := hP
  have hx := Bd.exec
  have hby := Bd.bytes
  have hml : c.maxLocals = 3 := hml0
  have hown : s.vm.findClass "java/util/ImmutableCollections" = some m.cls := findClass_of_methodNamed Bd.named
  have hnm := (name_of_methodNamed Bd.named Bd.method).1
  have X0 : Stand p l e ({ frames := 5, cells := 2, slots := 5, locals := 63 } : Room) s m #[(.ref a1)] below meth c s₁ [] 0 0 := Stand.of_body Bd
  have e0 : s₁.heap = h0 := by rw [← hh, Bd.state]; rfl
  have N0 := Fr.nil n0
  refine Goes.via (next := s₁.setTop (mkF m 0 #[.val (.ref a1), .unset, .unset] [])) (fun t k => castTop (ef_18 m a1) k) ?_
  refine Goes.via (next := s₁.setTop (mkF m 1 #[sr a1, .unset, .unset] [(.ref a1)])) (fun t k => XS.aloadN X0.here hx rfl (hb hby d18_0) rfl rfl k) ?_
  obtain ⟨cl1, Ar1, -, Sa1, Na1, -, -⟩ := id V1
  refine Goes.via (next := s₁.setTop (mkF m 2 #[sr a1, .unset, .unset] [(.int (3 : Int32))])) (fun t k => X0.arraylength hx (by rw [e0]; exact Ar1.1) (State.isArrayOf_alike hZ.alike Ar1.2.1) (g := (mkF m 1 #[sr a1, .unset, .unset] [(.ref a1)])) rfl rfl (hb hby d18_1) _ (by rw [len_of Sa1 Na1]; exact k)) ?_
  obtain ⟨T2, h2, ka2, X2, e2, E2, A2, Ov2, st2⟩ := newR X0 hx hZ hown (Wd hw 106 rfl) (Wd hw 107 rfl) e0 (g := (mkF m 2 #[sr a1, .unset, .unset] [(.int (3 : Int32))])) rfl (hb hby d18_2) rfl (by decide) (cap := 3) (by decide) (by decide) (by decide) (by decide)
  obtain ⟨b2, g2⟩ : ∃ z, z = h0.size := ⟨_, rfl⟩
  rw [← g2] at A2 st2
  have lt_a1_b2 : a1 < b2 := Nat.lt_of_lt_of_le V1.lt (Nat.le_of_eq g2.symm)
  have lt_ua_b2 : ua < b2 := Nat.lt_of_lt_of_le Xua.lt (Nat.le_of_eq g2.symm)
  have lt_ub_b2 : ub < b2 := Nat.lt_of_lt_of_le Xub.lt (Nat.le_of_eq g2.symm)
  have lt_uc_b2 : uc < b2 := Nat.lt_of_lt_of_le Xuc.lt (Nat.le_of_eq g2.symm)
  have ge_b2 : n0 ≤ b2 := Nat.le_trans Z0 (Nat.le_of_eq g2.symm)
  have sz_b2 : h0.size ≤ b2 := Nat.le_trans (Keep.refl h0 []).1 (Nat.le_of_eq g2.symm)
  have F2_12 := V1.ext E2
  have F2_13 := Xua.ext E2
  have F2_14 := Xub.ext E2
  have F2_15 := Xuc.ext E2
  have K2 : Keep h0 h2 [] := (Keep.refl h0 []).ext E2
  have Z2 : n0 ≤ h2.size := Nat.le_trans Z0 E2.1
  have O2 := O0.ext E2
  have V2 : Arv Z h2 b2 ka2 (.object "java/lang/Object") (3 : Int32) [.null, .null, .null] .null := (Arv.new A2 (by decide)).pad (pad_rep [] .null 3)
  refine Goes.via (next := T2.setTop (mkF m 5 #[sr a1, .unset, .unset] [(.ref b2)])) st2 ?_
  refine Goes.via (next := T2.setTop (mkF m 10 #[sr a1, sr b2, si (0 : Int32)] [(.ref a1), (.int (0 : Int32))])) (fun t k => XS.astoreN X2.here hx rfl (hb hby d18_5) rfl rfl (l' := #[sr a1, sr b2, .unset]) rfl (XS.iconst X2.here hx rfl (hb hby d18_6) (XS.istoreN X2.here hx rfl (hb hby d18_7) rfl (l' := #[sr a1, sr b2, si (0 : Int32)]) rfl (XS.iloadN X2.here hx rfl (hb hby d18_8) rfl (XS.aloadN X2.here hx rfl (hb hby d18_9) rfl rfl k))))) ?_
  obtain ⟨cl3, Ar3, -, Sa3, Na3, -, -⟩ := id F2_12
  refine Goes.via (next := T2.setTop (mkF m 11 #[sr a1, sr b2, si (0 : Int32)] [(.int (3 : Int32)), (.int (0 : Int32))])) (fun t k => X2.arraylength hx (by rw [e2]; exact Ar3.1) (State.isArrayOf_alike hZ.alike Ar3.2.1) (g := (mkF m 10 #[sr a1, sr b2, si (0 : Int32)] [(.ref a1), (.int (0 : Int32))])) rfl rfl (hb hby d18_10) _ (by rw [len_of Sa3 Na3]; exact k)) ?_
  refine Goes.via (next := T2.setTop (mkF m 14 #[sr a1, sr b2, si (0 : Int32)] [])) (fun t k => XS.icmpNo X2.here hx rfl (hb hby d18_11) rfl (tlt (show (0 : Int32) < (3 : Int32) from (by decide))).2.1 k) ?_
  refine Goes.via (next := T2.setTop (mkF m 18 #[sr a1, sr b2, si (0 : Int32)] [(.int (0 : Int32)), (.ref a1), (.int (0 : Int32)), (.ref b2)])) (fun t k => XS.aloadN X2.here hx rfl (hb hby d18_14) rfl rfl (XS.iloadN X2.here hx rfl (hb hby d18_15) rfl (XS.aloadN X2.here hx rfl (hb hby d18_16) rfl rfl (XS.iloadN X2.here hx rfl (hb hby d18_17) rfl k)))) ?_
  obtain ⟨cl4, Ar4, qa4, Sa4, Na4, Ha4, Ga4⟩ := id F2_12
  have hin4 : ¬ ((0 : Int32) < 0 ∨ cl4.slots.size ≤ ((0 : Int32)).toNatClampNeg) := inb_of Sa4 ⟨by decide, by decide⟩
  have hat4 : cl4.slots[((0 : Int32)).toNatClampNeg]? = some (.ref ua) := Ha4.at hin4 rfl
  refine Goes.via (next := T2.setTop (mkF m 19 #[sr a1, sr b2, si (0 : Int32)] [(.ref ua), (.int (0 : Int32)), (.ref b2)])) (fun t k => X2.aaload hx (j := (0 : Int32)) (v := (.ref ua)) (by rw [e2]; exact Ar4.1) (State.isArrayOf_alike hZ.alike Ar4.2.1) rfl Ar4.2.2 hin4 hat4 (g := (mkF m 18 #[sr a1, sr b2, si (0 : Int32)] [(.int (0 : Int32)), (.ref a1), (.int (0 : Int32)), (.ref b2)])) rfl rfl (hb hby d18_18) _ k) ?_
  obtain ⟨_, _, ⟨T5, L5, k5, n5⟩, -, X5, ⟨Lc5, hQ5, l5, y5, z5⟩, st5⟩ := Jvm.LawKit.callS X2 hx (y := (⟨"java/util/Objects", "requireNonNull", "(Ljava/lang/Object;)Ljava/lang/Object;"⟩ : MethodName)) hown (mvT hZ (Wd hw 108 rfl)) (mvT hZ (Wd hw 109 rfl)) (mvT hZ (Wd hw 110 rfl)) (mvT hZ (Wd hw 111 rfl)) (by decide) (backOf (W := 2) (rm19 l Z a0 hw [] ua  h2 n0 Z2 ) hZ (Wd hw 111 rfl) (Wd hw 110 rfl) (by decide) (by decide)) (g := (mkF m 19 #[sr a1, sr b2, si (0 : Int32)] [(.ref ua), (.int (0 : Int32)), (.ref b2)])) rfl (by rw [hml]; rfl) (argsL := [(.ref ua)]) (rest := [(.int (0 : Int32)), (.ref b2)]) (lenOf pd_6 rfl) rfl (by show 2 * 0 + _ ≤ _; exact Nat.le_of_eq rfl) (hb hby d18_19) (fun _ _ => ⟨rfl, e2, (by decide : 1 + 0 ≤ _), (by decide : 3 + 0 ≤ _)⟩)
  dsimp only [Pt.U, Pt.locs, Pt.cells, Pt.slots] at X5 l5 y5 z5 st5 hQ5
  subst l5 y5 z5
  obtain ⟨rfl, N5q, er5⟩ := hQ5
  have e5 : T5.heap = h2 := er5
  have N5 := Fr.app N0 N5q
  refine Goes.via (next := T5.setTop (mkF m 22 #[sr a1, sr b2, si (0 : Int32)] [(.ref ua), (.int (0 : Int32)), (.ref b2)])) st5 ?_
  obtain ⟨cl6, Ar6, qa6, Sa6, Na6, Ha6, Ga6⟩ := V2
  have hin6 : ¬ ((0 : Int32) < 0 ∨ cl6.slots.size ≤ ((0 : Int32)).toNatClampNeg) := inb_of Sa6 ⟨by decide, by decide⟩
  obtain ⟨T6, h6, X6, e6, W6, st6⟩ := stR X5 hx hZ e5 Ar6 (j := (0 : Int32)) hin6 rfl (Sto.ofV Ar6 qa6 Ov2 (Ins.of_exa F2_13 (Wd hw 112 rfl))) (g := (mkF m 22 #[sr a1, sr b2, si (0 : Int32)] [(.ref ua), (.int (0 : Int32)), (.ref b2)])) rfl rfl (hb hby d18_22)
  have V6 : Arv Z h6 b2 ka2 (.object "java/lang/Object") (3 : Int32) [(.ref ua), .null, .null] .null := Arv.set Ar6 qa6 Sa6 Na6 Ha6 Ga6 rfl W6 0 rfl (Nat.le_of_ble_eq_true rfl)
  have F6_41 := F2_12.other W6 (Nat.ne_of_lt lt_a1_b2)
  have F6_42 := F2_13.wr W6
  have F6_43 := F2_14.wr W6
  have F6_44 := F2_15.wr W6
  have K6 : Keep h0 h6 [] := K2.wr W6 (Or.inr sz_b2)
  have Z6 : n0 ≤ h6.size := Nat.le_trans Z2 (Keep.of_wr W6).1
  have N6 := Fr.snoc X6 N5 ge_b2
  have O6 := O2.wr W6 (Nat.le_trans hz ge_b2)
  refine Goes.via (next := T6.setTop (mkF m 23 #[sr a1, sr b2, si (0 : Int32)] [])) st6 ?_
  refine Goes.via (next := T6.setTop (mkF m 10 #[sr a1, sr b2, si (1 : Int32)] [(.ref a1), (.int (1 : Int32))])) (fun t k => XS.iinc X6.here hx rfl (hb hby d18_23) rfl (l' := #[sr a1, sr b2, si (1 : Int32)]) rfl (XS.goto X6.here hx rfl (pc0 := 26) (pc' := 8) rfl (hb hby d18_26) (by decide) (by decide) (XS.iloadN X6.here hx rfl (hb hby d18_8) rfl (XS.aloadN X6.here hx rfl (hb hby d18_9) rfl rfl k)))) ?_
  obtain ⟨cl7, Ar7, -, Sa7, Na7, -, -⟩ := id F6_41
  refine Goes.via (next := T6.setTop (mkF m 11 #[sr a1, sr b2, si (1 : Int32)] [(.int (3 : Int32)), (.int (1 : Int32))])) (fun t k => X6.arraylength hx (by rw [e6]; exact Ar7.1) (State.isArrayOf_alike hZ.alike Ar7.2.1) (g := (mkF m 10 #[sr a1, sr b2, si (1 : Int32)] [(.ref a1), (.int (1 : Int32))])) rfl rfl (hb hby d18_10) _ (by rw [len_of Sa7 Na7]; exact k)) ?_
  refine Goes.via (next := T6.setTop (mkF m 14 #[sr a1, sr b2, si (1 : Int32)] [])) (fun t k => XS.icmpNo X6.here hx rfl (hb hby d18_11) rfl (tlt (show (1 : Int32) < (3 : Int32) from (by decide))).2.1 k) ?_
  refine Goes.via (next := T6.setTop (mkF m 18 #[sr a1, sr b2, si (1 : Int32)] [(.int (1 : Int32)), (.ref a1), (.int (1 : Int32)), (.ref b2)])) (fun t k => XS.aloadN X6.here hx rfl (hb hby d18_14) rfl rfl (XS.iloadN X6.here hx rfl (hb hby d18_15) rfl (XS.aloadN X6.here hx rfl (hb hby d18_16) rfl rfl (XS.iloadN X6.here hx rfl (hb hby d18_17) rfl k)))) ?_
  obtain ⟨cl8, Ar8, qa8, Sa8, Na8, Ha8, Ga8⟩ := id F6_41
  have hin8 : ¬ ((1 : Int32) < 0 ∨ cl8.slots.size ≤ ((1 : Int32)).toNatClampNeg) := inb_of Sa8 ⟨by decide, by decide⟩
  have hat8 : cl8.slots[((1 : Int32)).toNatClampNeg]? = some (.ref ub) := Ha8.at hin8 rfl
  refine Goes.via (next := T6.setTop (mkF m 19 #[sr a1, sr b2, si (1 : Int32)] [(.ref ub), (.int (1 : Int32)), (.ref b2)])) (fun t k => X6.aaload hx (j := (1 : Int32)) (v := (.ref ub)) (by rw [e6]; exact Ar8.1) (State.isArrayOf_alike hZ.alike Ar8.2.1) rfl Ar8.2.2 hin8 hat8 (g := (mkF m 18 #[sr a1, sr b2, si (1 : Int32)] [(.int (1 : Int32)), (.ref a1), (.int (1 : Int32)), (.ref b2)])) rfl rfl (hb hby d18_18) _ k) ?_
  obtain ⟨Lw9, X9w, N9w⟩ := ownPack X6 N6
  obtain ⟨_, _, ⟨T10, L10, k10, n10⟩, -, X10, ⟨Lc10, hQ10, l10, y10, z10⟩, st10⟩ := Jvm.LawKit.callS X9w hx (y := (⟨"java/util/Objects", "requireNonNull", "(Ljava/lang/Object;)Ljava/lang/Object;"⟩ : MethodName)) hown (mvT hZ (Wd hw 108 rfl)) (mvT hZ (Wd hw 109 rfl)) (mvT hZ (Wd hw 110 rfl)) (mvT hZ (Wd hw 111 rfl)) (by decide) (backOf (W := 2) (rm19 l Z a0 hw [] ub  h6 n0 Z6 ) hZ (Wd hw 111 rfl) (Wd hw 110 rfl) (by decide) (by decide)) (g := (mkF m 19 #[sr a1, sr b2, si (1 : Int32)] [(.ref ub), (.int (1 : Int32)), (.ref b2)])) rfl (by rw [hml]; rfl) (argsL := [(.ref ub)]) (rest := [(.int (1 : Int32)), (.ref b2)]) (lenOf pd_6 rfl) rfl (by show 2 * 0 + _ ≤ _; exact Nat.le_of_eq rfl) (hb hby d18_19) (fun _ _ => ⟨rfl, e6, (by decide : 1 + 0 ≤ _), (by decide : 3 + 0 ≤ _)⟩)
  dsimp only [Pt.U, Pt.locs, Pt.cells, Pt.slots] at X10 l10 y10 z10 st10 hQ10
  subst l10 y10 z10
  obtain ⟨rfl, N10q, er10⟩ := hQ10
  have e10 : T10.heap = h6 := er10
  have N10 := Fr.app N9w N10q
  refine Goes.via (next := T10.setTop (mkF m 22 #[sr a1, sr b2, si (1 : Int32)] [(.ref ub), (.int (1 : Int32)), (.ref b2)])) st10 ?_
  obtain ⟨cl11, Ar11, qa11, Sa11, Na11, Ha11, Ga11⟩ := V6
  have hin11 : ¬ ((1 : Int32) < 0 ∨ cl11.slots.size ≤ ((1 : Int32)).toNatClampNeg) := inb_of Sa11 ⟨by decide, by decide⟩
  obtain ⟨T11, h11, X11, e11, W11, st11⟩ := stR X10 hx hZ e10 Ar11 (j := (1 : Int32)) hin11 rfl (Sto.ofV Ar11 qa11 Ov2 (Ins.of_exa F6_43 (Wd hw 112 rfl))) (g := (mkF m 22 #[sr a1, sr b2, si (1 : Int32)] [(.ref ub), (.int (1 : Int32)), (.ref b2)])) rfl rfl (hb hby d18_22)
  have V11 : Arv Z h11 b2 ka2 (.object "java/lang/Object") (3 : Int32) [(.ref ua), (.ref ub), .null] .null := Arv.set Ar11 qa11 Sa11 Na11 Ha11 Ga11 rfl W11 1 rfl (Nat.le_of_ble_eq_true rfl)
  have F11_71 := F6_41.other W11 (Nat.ne_of_lt lt_a1_b2)
  have F11_72 := F6_42.wr W11
  have F11_73 := F6_43.wr W11
  have F11_74 := F6_44.wr W11
  have K11 : Keep h0 h11 [] := K6.wr W11 (Or.inr sz_b2)
  have Z11 : n0 ≤ h11.size := Nat.le_trans Z6 (Keep.of_wr W11).1
  have N11 := Fr.snoc X11 N10 ge_b2
  have O11 := O6.wr W11 (Nat.le_trans hz ge_b2)
  refine Goes.via (next := T11.setTop (mkF m 23 #[sr a1, sr b2, si (1 : Int32)] [])) st11 ?_
  refine Goes.via (next := T11.setTop (mkF m 10 #[sr a1, sr b2, si (2 : Int32)] [(.ref a1), (.int (2 : Int32))])) (fun t k => XS.iinc X11.here hx rfl (hb hby d18_23) rfl (l' := #[sr a1, sr b2, si (2 : Int32)]) rfl (XS.goto X11.here hx rfl (pc0 := 26) (pc' := 8) rfl (hb hby d18_26) (by decide) (by decide) (XS.iloadN X11.here hx rfl (hb hby d18_8) rfl (XS.aloadN X11.here hx rfl (hb hby d18_9) rfl rfl k)))) ?_
  obtain ⟨cl12, Ar12, -, Sa12, Na12, -, -⟩ := id F11_71
  refine Goes.via (next := T11.setTop (mkF m 11 #[sr a1, sr b2, si (2 : Int32)] [(.int (3 : Int32)), (.int (2 : Int32))])) (fun t k => X11.arraylength hx (by rw [e11]; exact Ar12.1) (State.isArrayOf_alike hZ.alike Ar12.2.1) (g := (mkF m 10 #[sr a1, sr b2, si (2 : Int32)] [(.ref a1), (.int (2 : Int32))])) rfl rfl (hb hby d18_10) _ (by rw [len_of Sa12 Na12]; exact k)) ?_
  refine Goes.via (next := T11.setTop (mkF m 14 #[sr a1, sr b2, si (2 : Int32)] [])) (fun t k => XS.icmpNo X11.here hx rfl (hb hby d18_11) rfl (tlt (show (2 : Int32) < (3 : Int32) from (by decide))).2.1 k) ?_
  refine Goes.via (next := T11.setTop (mkF m 18 #[sr a1, sr b2, si (2 : Int32)] [(.int (2 : Int32)), (.ref a1), (.int (2 : Int32)), (.ref b2)])) (fun t k => XS.aloadN X11.here hx rfl (hb hby d18_14) rfl rfl (XS.iloadN X11.here hx rfl (hb hby d18_15) rfl (XS.aloadN X11.here hx rfl (hb hby d18_16) rfl rfl (XS.iloadN X11.here hx rfl (hb hby d18_17) rfl k)))) ?_
  obtain ⟨cl13, Ar13, qa13, Sa13, Na13, Ha13, Ga13⟩ := id F11_71
  have hin13 : ¬ ((2 : Int32) < 0 ∨ cl13.slots.size ≤ ((2 : Int32)).toNatClampNeg) := inb_of Sa13 ⟨by decide, by decide⟩
  have hat13 : cl13.slots[((2 : Int32)).toNatClampNeg]? = some (.ref uc) := Ha13.at hin13 rfl
  refine Goes.via (next := T11.setTop (mkF m 19 #[sr a1, sr b2, si (2 : Int32)] [(.ref uc), (.int (2 : Int32)), (.ref b2)])) (fun t k => X11.aaload hx (j := (2 : Int32)) (v := (.ref uc)) (by rw [e11]; exact Ar13.1) (State.isArrayOf_alike hZ.alike Ar13.2.1) rfl Ar13.2.2 hin13 hat13 (g := (mkF m 18 #[sr a1, sr b2, si (2 : Int32)] [(.int (2 : Int32)), (.ref a1), (.int (2 : Int32)), (.ref b2)])) rfl rfl (hb hby d18_18) _ k) ?_
  obtain ⟨Lw14, X14w, N14w⟩ := ownPack X11 N11
  obtain ⟨_, _, ⟨T15, L15, k15, n15⟩, -, X15, ⟨Lc15, hQ15, l15, y15, z15⟩, st15⟩ := Jvm.LawKit.callS X14w hx (y := (⟨"java/util/Objects", "requireNonNull", "(Ljava/lang/Object;)Ljava/lang/Object;"⟩ : MethodName)) hown (mvT hZ (Wd hw 108 rfl)) (mvT hZ (Wd hw 109 rfl)) (mvT hZ (Wd hw 110 rfl)) (mvT hZ (Wd hw 111 rfl)) (by decide) (backOf (W := 2) (rm19 l Z a0 hw [] uc  h11 n0 Z11 ) hZ (Wd hw 111 rfl) (Wd hw 110 rfl) (by decide) (by decide)) (g := (mkF m 19 #[sr a1, sr b2, si (2 : Int32)] [(.ref uc), (.int (2 : Int32)), (.ref b2)])) rfl (by rw [hml]; rfl) (argsL := [(.ref uc)]) (rest := [(.int (2 : Int32)), (.ref b2)]) (lenOf pd_6 rfl) rfl (by show 2 * 0 + _ ≤ _; exact Nat.le_of_eq rfl) (hb hby d18_19) (fun _ _ => ⟨rfl, e11, (by decide : 1 + 0 ≤ _), (by decide : 3 + 0 ≤ _)⟩)
  dsimp only [Pt.U, Pt.locs, Pt.cells, Pt.slots] at X15 l15 y15 z15 st15 hQ15
  subst l15 y15 z15
  obtain ⟨rfl, N15q, er15⟩ := hQ15
  have e15 : T15.heap = h11 := er15
  have N15 := Fr.app N14w N15q
  refine Goes.via (next := T15.setTop (mkF m 22 #[sr a1, sr b2, si (2 : Int32)] [(.ref uc), (.int (2 : Int32)), (.ref b2)])) st15 ?_
  obtain ⟨cl16, Ar16, qa16, Sa16, Na16, Ha16, Ga16⟩ := V11
  have hin16 : ¬ ((2 : Int32) < 0 ∨ cl16.slots.size ≤ ((2 : Int32)).toNatClampNeg) := inb_of Sa16 ⟨by decide, by decide⟩
  obtain ⟨T16, h16, X16, e16, W16, st16⟩ := stR X15 hx hZ e15 Ar16 (j := (2 : Int32)) hin16 rfl (Sto.ofV Ar16 qa16 Ov2 (Ins.of_exa F11_74 (Wd hw 112 rfl))) (g := (mkF m 22 #[sr a1, sr b2, si (2 : Int32)] [(.ref uc), (.int (2 : Int32)), (.ref b2)])) rfl rfl (hb hby d18_22)
  have V16 : Arv Z h16 b2 ka2 (.object "java/lang/Object") (3 : Int32) [(.ref ua), (.ref ub), (.ref uc)] .null := Arv.set Ar16 qa16 Sa16 Na16 Ha16 Ga16 rfl W16 2 rfl (Nat.le_of_ble_eq_true rfl)
  have F16_101 := F11_71.other W16 (Nat.ne_of_lt lt_a1_b2)
  have F16_102 := F11_72.wr W16
  have F16_103 := F11_73.wr W16
  have F16_104 := F11_74.wr W16
  have K16 : Keep h0 h16 [] := K11.wr W16 (Or.inr sz_b2)
  have Z16 : n0 ≤ h16.size := Nat.le_trans Z11 (Keep.of_wr W16).1
  have N16 := Fr.snoc X16 N15 ge_b2
  have O16 := O11.wr W16 (Nat.le_trans hz ge_b2)
  refine Goes.via (next := T16.setTop (mkF m 23 #[sr a1, sr b2, si (2 : Int32)] [])) st16 ?_
  refine Goes.via (next := T16.setTop (mkF m 10 #[sr a1, sr b2, si (3 : Int32)] [(.ref a1), (.int (3 : Int32))])) (fun t k => XS.iinc X16.here hx rfl (hb hby d18_23) rfl (l' := #[sr a1, sr b2, si (3 : Int32)]) rfl (XS.goto X16.here hx rfl (pc0 := 26) (pc' := 8) rfl (hb hby d18_26) (by decide) (by decide) (XS.iloadN X16.here hx rfl (hb hby d18_8) rfl (XS.aloadN X16.here hx rfl (hb hby d18_9) rfl rfl k)))) ?_
  obtain ⟨cl17, Ar17, -, Sa17, Na17, -, -⟩ := id F16_101
  refine Goes.via (next := T16.setTop (mkF m 11 #[sr a1, sr b2, si (3 : Int32)] [(.int (3 : Int32)), (.int (3 : Int32))])) (fun t k => X16.arraylength hx (by rw [e16]; exact Ar17.1) (State.isArrayOf_alike hZ.alike Ar17.2.1) (g := (mkF m 10 #[sr a1, sr b2, si (3 : Int32)] [(.ref a1), (.int (3 : Int32))])) rfl rfl (hb hby d18_10) _ (by rw [len_of Sa17 Na17]; exact k)) ?_
  refine Goes.via (next := T16.setTop (mkF m 29 #[sr a1, sr b2, si (3 : Int32)] [])) (fun t k => XS.icmpYes X16.here hx rfl (pc0 := 11) (pc' := 29) rfl (hb hby d18_11) rfl (flt (show ¬ ((3 : Int32) < (3 : Int32)) from (by decide))).2.1 (by decide) (by decide) k) ?_
  obtain ⟨T18, h18, X18, e18, E18, A18, D18, -, st18⟩ := newO X16 hx hZ hown (Wd hw 113 rfl) (Wd hw 114 rfl) (Wd hw 78 rfl) e16 (g := (mkF m 29 #[sr a1, sr b2, si (3 : Int32)] [])) rfl (hb hby d18_29) (by decide) (by decide)
  obtain ⟨b18, g18⟩ : ∃ z, z = h16.size := ⟨_, rfl⟩
  rw [← g18] at A18 D18 st18
  have lt_a1_b18 : a1 < b18 := Nat.lt_of_lt_of_le F16_101.lt (Nat.le_of_eq g18.symm)
  have lt_ua_b18 : ua < b18 := Nat.lt_of_lt_of_le F16_102.lt (Nat.le_of_eq g18.symm)
  have lt_ub_b18 : ub < b18 := Nat.lt_of_lt_of_le F16_103.lt (Nat.le_of_eq g18.symm)
  have lt_uc_b18 : uc < b18 := Nat.lt_of_lt_of_le F16_104.lt (Nat.le_of_eq g18.symm)
  have lt_b2_b18 : b2 < b18 := Nat.lt_of_lt_of_le V16.lt (Nat.le_of_eq g18.symm)
  have ge_b18 : n0 ≤ b18 := Nat.le_trans Z16 (Nat.le_of_eq g18.symm)
  have sz_b18 : h0.size ≤ b18 := Nat.le_trans K16.1 (Nat.le_of_eq g18.symm)
  have F18_124 := F16_101.ext E18
  have F18_125 := F16_102.ext E18
  have F18_126 := F16_103.ext E18
  have F18_127 := F16_104.ext E18
  have F18_128 := V16.ext E18
  have K18 : Keep h0 h18 [] := K16.ext E18
  have Z18 : n0 ≤ h18.size := Nat.le_trans Z16 E18.1
  have O18 := O16.ext E18
  have F18_elements : Fld Z h18 b18 "java/util/ImmutableCollections$ListN" "elements" "[Ljava/lang/Object;" .null := D18 (Or.inr (Wd hw 81 rfl)) (ty := (.array (.object "java/lang/Object"))) (by decide)
  have F18_allowNulls : Fld Z h18 b18 "java/util/ImmutableCollections$ListN" "allowNulls" "Z" (.int (0 : Int32)) := D18 (Or.inr (Wd hw 139 rfl)) (ty := .boolean) (by decide)
  refine Goes.via (next := T18.setTop (mkF m 32 #[sr a1, sr b2, si (3 : Int32)] [(.ref b18)])) st18 ?_
  refine Goes.via (next := T18.setTop (mkF m 35 #[sr a1, sr b2, si (3 : Int32)] [(.int (0 : Int32)), (.ref b2), (.ref b18), (.ref b18)])) (fun t k => XS.dup X18.here hx rfl (hb hby d18_32) rfl rfl (XS.aloadN X18.here hx rfl (hb hby d18_33) rfl rfl (XS.iconst X18.here hx rfl (hb hby d18_34) k))) ?_
  obtain ⟨Lw19, X19w, N19w⟩ := ownPack X18 N16
  obtain ⟨_, _, ⟨T20, L20, k20, n20⟩, -, X20, ⟨Lc20, hQ20, l20, y20, z20⟩, st20⟩ := X19w.specialBackNest hx (y := (⟨"java/util/ImmutableCollections$ListN", "<init>", "([Ljava/lang/Object;Z)V"⟩ : MethodName)) rfl hown (ownMvN hZ (Wd hw 115 rfl)) (mvT hZ (Wd hw 116 rfl)) (mvT hZ (Wd hw 118 rfl)) (by decide) (backOf (W := 1) (rm20 l Z a0 hw [] b18 b2 (0 : Int32)  h18 n0 Z18 A18 F18_elements F18_allowNulls ge_b18) hZ (Wd hw 118 rfl) (Wd hw 78 rfl) (by decide) (by decide)) (g := (mkF m 35 #[sr a1, sr b2, si (3 : Int32)] [(.int (0 : Int32)), (.ref b2), (.ref b18), (.ref b18)])) rfl (by rw [hml]; rfl) (Steps.refl _) (a := b18) (argsL := [(.ref b2), (.int (0 : Int32))]) (rest := [(.ref b18)]) (lenOf pd_7 rfl) rfl (by show 2 * 0 + _ ≤ _; exact Nat.le_of_eq rfl) (hb hby d18_35) (fun _ _ => ⟨rfl, e18, (by decide : 2 + 0 ≤ _), (by decide : 5 + 0 ≤ _)⟩)
  dsimp only [Pt.U, Pt.locs, Pt.cells, Pt.slots] at X20 l20 y20 z20 st20 hQ20
  subst l20 y20 z20
  obtain ⟨rfl, N20q, Kc20, Ec20, F20_elements, F20_allowNulls⟩ := hQ20
  have F20_141 := F18_124.keep Kc20 (fun q => (Nat.ne_of_lt lt_a1_b18) (List.mem_singleton.mp q))
  have F20_142 := F18_125.keep Kc20
  have F20_143 := F18_126.keep Kc20
  have F20_144 := F18_127.keep Kc20
  have F20_145 := F18_128.keep Kc20 (fun q => (Nat.ne_of_lt lt_b2_b18) (List.mem_singleton.mp q))
  have F20_146 := A18.keep Kc20
  have K20 : Keep h0 T20.heap [] := K18.trans Kc20 (fun x hx => by cases List.mem_singleton.mp hx; exact Or.inr sz_b18)
  have Z20 : n0 ≤ T20.heap.size := Nat.le_trans Z18 Kc20.1
  have O20 := O18.keep Kc20 (fun x hx => by cases List.mem_singleton.mp hx; exact (Nat.le_trans hz ge_b18))
  have N20 := Fr.app N19w N20q
  refine Goes.via (next := T20.setTop (mkF m 38 #[sr a1, sr b2, si (3 : Int32)] [(.ref b18)])) (fun t k => st20.trans k) ?_
  obtain ⟨fs, hr, hrun, hended, hW, hsame⟩ := X20.leave (v := some (.ref b18)) (fun h => by rw [Bd.returns] at h; cases h)
  refine ⟨_, _, ?_, hrun, hended, _, _, rfl, ?_, ⟨_, rfl⟩, hW, hsame.mono (by decide) (by decide)⟩
  · exact retOut X20 hx (t := (.object "java/util/List")) Bd.returns rfl (Or.inr (Or.inr (Or.inr (Or.inr ⟨rfl, rfl, rfl⟩)))) (hb hby d18_38) hr
  · show Q18 Z ua ub uc h0 n0 _ T20.heap _
    exact ⟨b18, b2, _, rfl, N20, ge_b18, sz_b18, sz_b2, K20, F20_146, F20_elements, F20_145⟩
theorem d9_0 : decode jdk_40_method_47_code 0 = .ok (.aload_n 0, 1) := by decide +kernel
theorem d9_1 : decode jdk_40_method_47_code 1 = .ok (.arraylength, 1) := by decide +kernel
theorem d9_2 : decode jdk_40_method_47_code 2 = .ok (.tableswitch 57 0 2 #[26, 32, 43], 26) := by decide +kernel
theorem d9_28 : decode jdk_40_method_47_code 28 = .ok (.getstatic 90, 3) := by decide +kernel
theorem d9_31 : decode jdk_40_method_47_code 31 = .ok (.astore_n 1, 1) := by decide +kernel
theorem d9_32 : decode jdk_40_method_47_code 32 = .ok (.aload_n 1, 1) := by decide +kernel
theorem d9_33 : decode jdk_40_method_47_code 33 = .ok (.areturn, 1) := by decide +kernel
theorem pn_11 : plainName "java/util/List" = true := by first | (simp [plainName, overriddenIn]; done) | decide +kernel
theorem ef_9_0 (m : MethodId) (x0 : Addr) : entryFrame m #[(.ref x0)] 2 = mkF m 0 #[.val (.ref x0), .unset] [] := by first | (simp [entryFrame, mkF, argsToLocals, Value.category]; done) | rfl
def Q9_0 (Z : State) (rL : Addr) (h0 : Heap) (n0 : Nat) (v : Option Value) (h : Heap) (L : List Loc) : Prop := v = some (.ref rL) ∧ Fr n0 L ∧ h = h0
set_option maxRecDepth 65536 in
set_option maxHeartbeats 40000000 in
theorem rm9_0 (l : Launch) (Z : State) (a0 : Array Value) (hw : ∀ d ∈ tables_1, d.before a0 Z = true) (ws : List Jvm.Cond) (a1 : Addr) (k1 : ClassId) (w0 : Int32) (rE rL eL : Addr) (kL : ClassId) (nZ : Nat) (h0 : Heap) (n0 : Nat) (Z0 : n0 ≤ h0.size) (V1 : Arv Z h0 a1 k1 (.object "java/lang/String") (0 : Int32) [] .null) (O0 : Old Z nZ h0) (hz : nZ ≤ n0) (St : own_St Z w0 rE rL eL kL) :
    MF l (⟨"java/util/List", "of", "([Ljava/lang/Object;)Ljava/util/List;"⟩ : MethodName) jdk_40_method_47_code 2 (some (.object "java/util/List")) ws ({ frames := 0, cells := 0, slots := 0, locals := 0 } : Room) #[(.ref a1)] Z h0 (Q9_0 Z rL h0 n0) := by
  refine MetFree.of_bodySF (plainFor_of_name pn_11) hisR ?_
  intro p e s m args below meth c s₁ Bd hml0 hP hK
  obtain ⟨rfl, hZ, hh⟩ := hP
  have hx := Bd.exec
  have hby := Bd.bytes
  have hml : c.maxLocals = 2 := hml0
  have hown : s.vm.findClass "java/util/List" = some m.cls := findClass_of_methodNamed Bd.named
  have hnm := (name_of_methodNamed Bd.named Bd.method).1
  have X0 : Stand p l e ({ frames := 0, cells := 0, slots := 0, locals := 0 } : Room) s m #[(.ref a1)] below meth c s₁ [] 0 0 := Stand.of_body Bd
  have e0 : s₁.heap = h0 := by rw [← hh, Bd.state]; rfl
  have N0 := Fr.nil n0
  refine Goes.via (next := s₁.setTop (mkF m 0 #[.val (.ref a1), .unset] [])) (fun t k => castTop (ef_9_0 m a1) k) ?_
  refine Goes.via (next := s₁.setTop (mkF m 1 #[sr a1, .unset] [(.ref a1)])) (fun t k => XS.aloadN X0.here hx rfl (hb hby d9_0) rfl rfl k) ?_
  obtain ⟨cl1, Ar1, -, Sa1, Na1, -, -⟩ := id V1
  refine Goes.via (next := s₁.setTop (mkF m 2 #[sr a1, .unset] [(.int (0 : Int32))])) (fun t k => X0.arraylength hx (by rw [e0]; exact Ar1.1) (State.isArrayOf_alike hZ.alike Ar1.2.1) (g := (mkF m 1 #[sr a1, .unset] [(.ref a1)])) rfl rfl (hb hby d9_1) _ (by rw [len_of Sa1 Na1]; exact k)) ?_
  refine Goes.via (next := s₁.setTop (mkF m 28 #[sr a1, .unset] [])) (fun t k => XS.tswIn X0.here hx rfl (o := 26) (pc0 := 2) (pc' := 28) rfl (hb hby d9_2) rfl (by decide) rfl (by decide) (by decide) k) ?_
  obtain ⟨T2, X2, e2, st2⟩ := getS2 X0 hx hZ hown (host := "") (Or.inl (Wd hw 45 rfl)) Via.refl e0 (St.2.2.2.2.1.ext O0.2) (g := (mkF m 28 #[sr a1, .unset] [])) rfl (hb hby d9_28)
  refine Goes.via (next := T2.setTop (mkF m 31 #[sr a1, .unset] [(.ref rL)])) st2 ?_
  refine Goes.via (next := T2.setTop (mkF m 33 #[sr a1, sr rL] [(.ref rL)])) (fun t k => XS.astoreN X2.here hx rfl (hb hby d9_31) rfl rfl (l' := #[sr a1, sr rL]) rfl (XS.aloadN X2.here hx rfl (hb hby d9_32) rfl rfl k)) ?_
  obtain ⟨fs, hr, hrun, hended, hW, hsame⟩ := X2.leave (v := some (.ref rL)) (fun h => by rw [Bd.returns] at h; cases h)
  refine ⟨_, _, ?_, hrun, hended, _, _, rfl, ?_, ⟨_, rfl⟩, hW, hsame.mono (by decide) (by decide)⟩
  · exact retOut X2 hx (t := (.object "java/util/List")) Bd.returns rfl (Or.inr (Or.inr (Or.inr (Or.inr ⟨rfl, rfl, rfl⟩)))) (hb hby d9_33) hr
  · show Q9_0 Z rL h0 n0 _ T2.heap _
    rw [e2]
    exact ⟨rfl, N0, rfl⟩
theorem d9_34 : decode jdk_40_method_47_code 34 = .ok (.new 96, 3) := by decide +kernel
theorem d9_37 : decode jdk_40_method_47_code 37 = .ok (.dup, 1) := by decide +kernel
theorem d9_38 : decode jdk_40_method_47_code 38 = .ok (.aload_n 0, 1) := by decide +kernel
theorem d9_39 : decode jdk_40_method_47_code 39 = .ok (.iconst 0, 1) := by decide +kernel
theorem d9_40 : decode jdk_40_method_47_code 40 = .ok (.aaload, 1) := by decide +kernel
theorem d9_41 : decode jdk_40_method_47_code 41 = .ok (.invokespecial 98, 3) := by decide +kernel
theorem d9_44 : decode jdk_40_method_47_code 44 = .ok (.areturn, 1) := by decide +kernel
theorem pd_8 : parseMethodDescriptor "(Ljava/lang/Object;)V" = some ⟨[(.object "java/lang/Object")], none⟩ := by decide +kernel
theorem ef_9_1 (m : MethodId) (x0 : Addr) : entryFrame m #[(.ref x0)] 2 = mkF m 0 #[.val (.ref x0), .unset] [] := by first | (simp [entryFrame, mkF, argsToLocals, Value.category]; done) | rfl
def Q9_1 (Z : State) (ua rE : Addr) (h0 : Heap) (n0 : Nat) (v : Option Value) (h : Heap) (L : List Loc) : Prop := ∃ (r : Addr), v = some (.ref r) ∧ Fr n0 L ∧ n0 ≤ r ∧ h0.size ≤ r ∧ Keep h0 h [] ∧ Exa Z h r "java/util/ImmutableCollections$List12" ∧ Fld Z h r "java/util/ImmutableCollections$List12" "e0" "Ljava/lang/Object;" (.ref ua) ∧ Fld Z h r "java/util/ImmutableCollections$List12" "e1" "Ljava/lang/Object;" (.ref rE)
set_option maxRecDepth 65536 in
set_option maxHeartbeats 40000000 in
theorem rm9_1 (l : Launch) (Z : State) (a0 : Array Value) (hw : ∀ d ∈ tables_1, d.before a0 Z = true) (ws : List Jvm.Cond) (a1 : Addr) (ua : Addr) (k1 : ClassId) (w0 : Int32) (rE rL eL : Addr) (kL : ClassId) (nZ : Nat) (h0 : Heap) (n0 : Nat) (Z0 : n0 ≤ h0.size) (V1 : Arv Z h0 a1 k1 (.object "java/lang/String") (1 : Int32) [.ref ua] .null) (Xua : Exa Z h0 ua "java/lang/String") (O0 : Old Z nZ h0) (hz : nZ ≤ n0) (St : own_St Z w0 rE rL eL kL) :
    MF l (⟨"java/util/List", "of", "([Ljava/lang/Object;)Ljava/util/List;"⟩ : MethodName) jdk_40_method_47_code 2 (some (.object "java/util/List")) ws ({ frames := 5, cells := 1, slots := 2, locals := 62 } : Room) #[(.ref a1)] Z h0 (Q9_1 Z ua rE h0 n0) := by
  refine MetFree.of_bodySF (plainFor_of_name pn_11) hisR ?_
  intro p e s m args below meth c s₁ Bd hml0 hP hK
  obtain ⟨rfl, hZ, hh⟩ := hP
  have hx := Bd.exec
  have hby := Bd.bytes
  have hml : c.maxLocals = 2 := hml0
  have hown : s.vm.findClass "java/util/List" = some m.cls := findClass_of_methodNamed Bd.named
  have hnm := (name_of_methodNamed Bd.named Bd.method).1
  have X0 : Stand p l e ({ frames := 5, cells := 1, slots := 2, locals := 62 } : Room) s m #[(.ref a1)] below meth c s₁ [] 0 0 := Stand.of_body Bd
  have e0 : s₁.heap = h0 := by rw [← hh, Bd.state]; rfl
  have N0 := Fr.nil n0
  refine Goes.via (next := s₁.setTop (mkF m 0 #[.val (.ref a1), .unset] [])) (fun t k => castTop (ef_9_1 m a1) k) ?_
  refine Goes.via (next := s₁.setTop (mkF m 1 #[sr a1, .unset] [(.ref a1)])) (fun t k => XS.aloadN X0.here hx rfl (hb hby d9_0) rfl rfl k) ?_
  obtain ⟨cl1, Ar1, -, Sa1, Na1, -, -⟩ := id V1
  refine Goes.via (next := s₁.setTop (mkF m 2 #[sr a1, .unset] [(.int (1 : Int32))])) (fun t k => X0.arraylength hx (by rw [e0]; exact Ar1.1) (State.isArrayOf_alike hZ.alike Ar1.2.1) (g := (mkF m 1 #[sr a1, .unset] [(.ref a1)])) rfl rfl (hb hby d9_1) _ (by rw [len_of Sa1 Na1]; exact k)) ?_
  refine Goes.via (next := s₁.setTop (mkF m 34 #[sr a1, .unset] [])) (fun t k => XS.tswIn X0.here hx rfl (o := 32) (pc0 := 2) (pc' := 34) rfl (hb hby d9_2) rfl (by decide) rfl (by decide) (by decide) k) ?_
  obtain ⟨T2, h2, X2, e2, E2, A2, D2, -, st2⟩ := newO X0 hx hZ hown (Wd hw 281 rfl) (Wd hw 282 rfl) (Wd hw 283 rfl) e0 (g := (mkF m 34 #[sr a1, .unset] [])) rfl (hb hby d9_34) (by decide) (by decide)
  obtain ⟨b2, g2⟩ : ∃ z, z = h0.size := ⟨_, rfl⟩
  rw [← g2] at A2 D2 st2
  have lt_a1_b2 : a1 < b2 := Nat.lt_of_lt_of_le V1.lt (Nat.le_of_eq g2.symm)
  have lt_ua_b2 : ua < b2 := Nat.lt_of_lt_of_le Xua.lt (Nat.le_of_eq g2.symm)
  have ge_b2 : n0 ≤ b2 := Nat.le_trans Z0 (Nat.le_of_eq g2.symm)
  have sz_b2 : h0.size ≤ b2 := Nat.le_trans (Keep.refl h0 []).1 (Nat.le_of_eq g2.symm)
  have F2_11 := V1.ext E2
  have F2_12 := Xua.ext E2
  have K2 : Keep h0 h2 [] := (Keep.refl h0 []).ext E2
  have Z2 : n0 ≤ h2.size := Nat.le_trans Z0 E2.1
  have O2 := O0.ext E2
  have F2_e0 : Fld Z h2 b2 "java/util/ImmutableCollections$List12" "e0" "Ljava/lang/Object;" .null := D2 (Or.inr (Wd hw 294 rfl)) (ty := (.object "java/lang/Object")) (by decide)
  have F2_e1 : Fld Z h2 b2 "java/util/ImmutableCollections$List12" "e1" "Ljava/lang/Object;" .null := D2 (Or.inr (Wd hw 296 rfl)) (ty := (.object "java/lang/Object")) (by decide)
  refine Goes.via (next := T2.setTop (mkF m 37 #[sr a1, .unset] [(.ref b2)])) st2 ?_
  refine Goes.via (next := T2.setTop (mkF m 40 #[sr a1, .unset] [(.int (0 : Int32)), (.ref a1), (.ref b2), (.ref b2)])) (fun t k => XS.dup X2.here hx rfl (hb hby d9_37) rfl rfl (XS.aloadN X2.here hx rfl (hb hby d9_38) rfl rfl (XS.iconst X2.here hx rfl (hb hby d9_39) k))) ?_
  obtain ⟨cl3, Ar3, qa3, Sa3, Na3, Ha3, Ga3⟩ := id F2_11
  have hin3 : ¬ ((0 : Int32) < 0 ∨ cl3.slots.size ≤ ((0 : Int32)).toNatClampNeg) := inb_of Sa3 ⟨by decide, by decide⟩
  have hat3 : cl3.slots[((0 : Int32)).toNatClampNeg]? = some (.ref ua) := Ha3.at hin3 rfl
  refine Goes.via (next := T2.setTop (mkF m 41 #[sr a1, .unset] [(.ref ua), (.ref b2), (.ref b2)])) (fun t k => X2.aaload hx (j := (0 : Int32)) (v := (.ref ua)) (by rw [e2]; exact Ar3.1) (State.isArrayOf_alike hZ.alike Ar3.2.1) rfl Ar3.2.2 hin3 hat3 (g := (mkF m 40 #[sr a1, .unset] [(.int (0 : Int32)), (.ref a1), (.ref b2), (.ref b2)])) rfl rfl (hb hby d9_40) _ k) ?_
  obtain ⟨_, _, ⟨T4, L4, k4, n4⟩, -, X4, ⟨Lc4, hQ4, l4, y4, z4⟩, st4⟩ := X2.specialBack hx (y := (⟨"java/util/ImmutableCollections$List12", "<init>", "(Ljava/lang/Object;)V"⟩ : MethodName)) rfl hown (mvT hZ (Wd hw 309 rfl)) (mvT hZ (Wd hw 310 rfl)) (mvT hZ (Wd hw 311 rfl)) (by decide) (backOf (W := 1) (rm53 l Z a0 hw [] b2 ua w0 rE rL eL kL nZ h2 n0 Z2 A2 F2_e0 F2_e1 ge_b2 O2 hz St) hZ (Wd hw 311 rfl) (Wd hw 283 rfl) (by decide) (by decide)) (g := (mkF m 41 #[sr a1, .unset] [(.ref ua), (.ref b2), (.ref b2)])) rfl (by rw [hml]; rfl) (Steps.refl _) (a := b2) (argsL := [(.ref ua)]) (rest := [(.ref b2)]) (lenOf pd_8 rfl) rfl (by show 2 * 0 + _ ≤ _; exact Nat.le_of_eq rfl) (hb hby d9_41) (fun _ _ => ⟨rfl, e2, (by decide : 1 + 0 ≤ _), (by decide : 2 + 0 ≤ _)⟩)
  dsimp only [Pt.U, Pt.locs, Pt.cells, Pt.slots] at X4 l4 y4 z4 st4 hQ4
  subst l4 y4 z4
  obtain ⟨rfl, N4q, Kc4, Ec4, F4_e0, F4_e1⟩ := hQ4
  have F4_28 := F2_11.keep Kc4 (fun q => (Nat.ne_of_lt lt_a1_b2) (List.mem_singleton.mp q))
  have F4_29 := F2_12.keep Kc4
  have F4_30 := A2.keep Kc4
  have K4 : Keep h0 T4.heap [] := K2.trans Kc4 (fun x hx => by cases List.mem_singleton.mp hx; exact Or.inr sz_b2)
  have Z4 : n0 ≤ T4.heap.size := Nat.le_trans Z2 Kc4.1
  have O4 := O2.keep Kc4 (fun x hx => by cases List.mem_singleton.mp hx; exact (Nat.le_trans hz ge_b2))
  have N4 := Fr.app N0 N4q
  refine Goes.via (next := T4.setTop (mkF m 44 #[sr a1, .unset] [(.ref b2)])) (fun t k => st4.trans k) ?_
  obtain ⟨fs, hr, hrun, hended, hW, hsame⟩ := X4.leave (v := some (.ref b2)) (fun h => by rw [Bd.returns] at h; cases h)
  refine ⟨_, _, ?_, hrun, hended, _, _, rfl, ?_, ⟨_, rfl⟩, hW, hsame.mono (by decide) (by decide)⟩
  · exact retOut X4 hx (t := (.object "java/util/List")) Bd.returns rfl (Or.inr (Or.inr (Or.inr (Or.inr ⟨rfl, rfl, rfl⟩)))) (hb hby d9_44) hr
  · show Q9_1 Z ua rE h0 n0 _ T4.heap _
    exact ⟨b2, rfl, N4, ge_b2, sz_b2, K4, F4_30, F4_e0, F4_e1⟩
theorem d9_45 : decode jdk_40_method_47_code 45 = .ok (.new 96, 3) := by decide +kernel
theorem d9_48 : decode jdk_40_method_47_code 48 = .ok (.dup, 1) := by decide +kernel
theorem d9_49 : decode jdk_40_method_47_code 49 = .ok (.aload_n 0, 1) := by decide +kernel
theorem d9_50 : decode jdk_40_method_47_code 50 = .ok (.iconst 0, 1) := by decide +kernel
theorem d9_51 : decode jdk_40_method_47_code 51 = .ok (.aaload, 1) := by decide +kernel
theorem d9_52 : decode jdk_40_method_47_code 52 = .ok (.aload_n 0, 1) := by decide +kernel
theorem d9_53 : decode jdk_40_method_47_code 53 = .ok (.iconst 1, 1) := by decide +kernel
theorem d9_54 : decode jdk_40_method_47_code 54 = .ok (.aaload, 1) := by decide +kernel
theorem d9_55 : decode jdk_40_method_47_code 55 = .ok (.invokespecial 100, 3) := by decide +kernel
theorem d9_58 : decode jdk_40_method_47_code 58 = .ok (.areturn, 1) := by decide +kernel
theorem pd_9 : parseMethodDescriptor "(Ljava/lang/Object;Ljava/lang/Object;)V" = some ⟨[(.object "java/lang/Object"), (.object "java/lang/Object")], none⟩ := by decide +kernel
theorem ef_9_2 (m : MethodId) (x0 : Addr) : entryFrame m #[(.ref x0)] 2 = mkF m 0 #[.val (.ref x0), .unset] [] := by first | (simp [entryFrame, mkF, argsToLocals, Value.category]; done) | rfl
def Q9_2 (Z : State) (ua ub : Addr) (h0 : Heap) (n0 : Nat) (v : Option Value) (h : Heap) (L : List Loc) : Prop := ∃ (r : Addr), v = some (.ref r) ∧ Fr n0 L ∧ n0 ≤ r ∧ h0.size ≤ r ∧ Keep h0 h [] ∧ Exa Z h r "java/util/ImmutableCollections$List12" ∧ Fld Z h r "java/util/ImmutableCollections$List12" "e0" "Ljava/lang/Object;" (.ref ua) ∧ Fld Z h r "java/util/ImmutableCollections$List12" "e1" "Ljava/lang/Object;" (.ref ub)
set_option maxRecDepth 65536 in
set_option maxHeartbeats 40000000 in
theorem rm9_2 (l : Launch) (Z : State) (a0 : Array Value) (hw : ∀ d ∈ tables_1, d.before a0 Z = true) (ws : List Jvm.Cond) (a1 : Addr) (ua ub : Addr) (k1 : ClassId) (w0 : Int32) (rE rL eL : Addr) (kL : ClassId) (nZ : Nat) (h0 : Heap) (n0 : Nat) (Z0 : n0 ≤ h0.size) (V1 : Arv Z h0 a1 k1 (.object "java/lang/String") (2 : Int32) [.ref ua, .ref ub] .null) (Xua : Exa Z h0 ua "java/lang/String") (Xub : Exa Z h0 ub "java/lang/String") (O0 : Old Z nZ h0) (hz : nZ ≤ n0) (St : own_St Z w0 rE rL eL kL) :
    MF l (⟨"java/util/List", "of", "([Ljava/lang/Object;)Ljava/util/List;"⟩ : MethodName) jdk_40_method_47_code 2 (some (.object "java/util/List")) ws ({ frames := 5, cells := 1, slots := 2, locals := 63 } : Room) #[(.ref a1)] Z h0 (Q9_2 Z ua ub h0 n0) := by
  refine MetFree.of_bodySF (plainFor_of_name pn_11) hisR ?_
  intro p e s m args below meth c s₁ Bd hml0 hP hK
  obtain ⟨rfl, hZ, hh⟩ := hP
  have hx := Bd.exec
  have hby := Bd.bytes
  have hml : c.maxLocals = 2 := hml0
  have hown : s.vm.findClass "java/util/List" = some m.cls := findClass_of_methodNamed Bd.named
  have hnm := (name_of_methodNamed Bd.named Bd.method).1
  have X0 : Stand p l e ({ frames := 5, cells := 1, slots := 2, locals := 63 } : Room) s m #[(.ref a1)] below meth c s₁ [] 0 0 := Stand.of_body Bd
  have e0 : s₁.heap = h0 := by rw [← hh, Bd.state]; rfl
  have N0 := Fr.nil n0
  refine Goes.via (next := s₁.setTop (mkF m 0 #[.val (.ref a1), .unset] [])) (fun t k => castTop (ef_9_2 m a1) k) ?_
  refine Goes.via (next := s₁.setTop (mkF m 1 #[sr a1, .unset] [(.ref a1)])) (fun t k => XS.aloadN X0.here hx rfl (hb hby d9_0) rfl rfl k) ?_
  obtain ⟨cl1, Ar1, -, Sa1, Na1, -, -⟩ := id V1
  refine Goes.via (next := s₁.setTop (mkF m 2 #[sr a1, .unset] [(.int (2 : Int32))])) (fun t k => X0.arraylength hx (by rw [e0]; exact Ar1.1) (State.isArrayOf_alike hZ.alike Ar1.2.1) (g := (mkF m 1 #[sr a1, .unset] [(.ref a1)])) rfl rfl (hb hby d9_1) _ (by rw [len_of Sa1 Na1]; exact k)) ?_
  refine Goes.via (next := s₁.setTop (mkF m 45 #[sr a1, .unset] [])) (fun t k => XS.tswIn X0.here hx rfl (o := 43) (pc0 := 2) (pc' := 45) rfl (hb hby d9_2) rfl (by decide) rfl (by decide) (by decide) k) ?_
  obtain ⟨T2, h2, X2, e2, E2, A2, D2, -, st2⟩ := newO X0 hx hZ hown (Wd hw 281 rfl) (Wd hw 282 rfl) (Wd hw 283 rfl) e0 (g := (mkF m 45 #[sr a1, .unset] [])) rfl (hb hby d9_45) (by decide) (by decide)
  obtain ⟨b2, g2⟩ : ∃ z, z = h0.size := ⟨_, rfl⟩
  rw [← g2] at A2 D2 st2
  have lt_a1_b2 : a1 < b2 := Nat.lt_of_lt_of_le V1.lt (Nat.le_of_eq g2.symm)
  have lt_ua_b2 : ua < b2 := Nat.lt_of_lt_of_le Xua.lt (Nat.le_of_eq g2.symm)
  have lt_ub_b2 : ub < b2 := Nat.lt_of_lt_of_le Xub.lt (Nat.le_of_eq g2.symm)
  have ge_b2 : n0 ≤ b2 := Nat.le_trans Z0 (Nat.le_of_eq g2.symm)
  have sz_b2 : h0.size ≤ b2 := Nat.le_trans (Keep.refl h0 []).1 (Nat.le_of_eq g2.symm)
  have F2_12 := V1.ext E2
  have F2_13 := Xua.ext E2
  have F2_14 := Xub.ext E2
  have K2 : Keep h0 h2 [] := (Keep.refl h0 []).ext E2
  have Z2 : n0 ≤ h2.size := Nat.le_trans Z0 E2.1
  have O2 := O0.ext E2
  have F2_e0 : Fld Z h2 b2 "java/util/ImmutableCollections$List12" "e0" "Ljava/lang/Object;" .null := D2 (Or.inr (Wd hw 294 rfl)) (ty := (.object "java/lang/Object")) (by decide)
  have F2_e1 : Fld Z h2 b2 "java/util/ImmutableCollections$List12" "e1" "Ljava/lang/Object;" .null := D2 (Or.inr (Wd hw 296 rfl)) (ty := (.object "java/lang/Object")) (by decide)
  refine Goes.via (next := T2.setTop (mkF m 48 #[sr a1, .unset] [(.ref b2)])) st2 ?_
  refine Goes.via (next := T2.setTop (mkF m 51 #[sr a1, .unset] [(.int (0 : Int32)), (.ref a1), (.ref b2), (.ref b2)])) (fun t k => XS.dup X2.here hx rfl (hb hby d9_48) rfl rfl (XS.aloadN X2.here hx rfl (hb hby d9_49) rfl rfl (XS.iconst X2.here hx rfl (hb hby d9_50) k))) ?_
  obtain ⟨cl3, Ar3, qa3, Sa3, Na3, Ha3, Ga3⟩ := id F2_12
  have hin3 : ¬ ((0 : Int32) < 0 ∨ cl3.slots.size ≤ ((0 : Int32)).toNatClampNeg) := inb_of Sa3 ⟨by decide, by decide⟩
  have hat3 : cl3.slots[((0 : Int32)).toNatClampNeg]? = some (.ref ua) := Ha3.at hin3 rfl
  refine Goes.via (next := T2.setTop (mkF m 52 #[sr a1, .unset] [(.ref ua), (.ref b2), (.ref b2)])) (fun t k => X2.aaload hx (j := (0 : Int32)) (v := (.ref ua)) (by rw [e2]; exact Ar3.1) (State.isArrayOf_alike hZ.alike Ar3.2.1) rfl Ar3.2.2 hin3 hat3 (g := (mkF m 51 #[sr a1, .unset] [(.int (0 : Int32)), (.ref a1), (.ref b2), (.ref b2)])) rfl rfl (hb hby d9_51) _ k) ?_
  refine Goes.via (next := T2.setTop (mkF m 54 #[sr a1, .unset] [(.int (1 : Int32)), (.ref a1), (.ref ua), (.ref b2), (.ref b2)])) (fun t k => XS.aloadN X2.here hx rfl (hb hby d9_52) rfl rfl (XS.iconst X2.here hx rfl (hb hby d9_53) k)) ?_
  obtain ⟨cl4, Ar4, qa4, Sa4, Na4, Ha4, Ga4⟩ := id F2_12
  have hin4 : ¬ ((1 : Int32) < 0 ∨ cl4.slots.size ≤ ((1 : Int32)).toNatClampNeg) := inb_of Sa4 ⟨by decide, by decide⟩
  have hat4 : cl4.slots[((1 : Int32)).toNatClampNeg]? = some (.ref ub) := Ha4.at hin4 rfl
  refine Goes.via (next := T2.setTop (mkF m 55 #[sr a1, .unset] [(.ref ub), (.ref ua), (.ref b2), (.ref b2)])) (fun t k => X2.aaload hx (j := (1 : Int32)) (v := (.ref ub)) (by rw [e2]; exact Ar4.1) (State.isArrayOf_alike hZ.alike Ar4.2.1) rfl Ar4.2.2 hin4 hat4 (g := (mkF m 54 #[sr a1, .unset] [(.int (1 : Int32)), (.ref a1), (.ref ua), (.ref b2), (.ref b2)])) rfl rfl (hb hby d9_54) _ k) ?_
  obtain ⟨_, _, ⟨T5, L5, k5, n5⟩, -, X5, ⟨Lc5, hQ5, l5, y5, z5⟩, st5⟩ := X2.specialBack hx (y := (⟨"java/util/ImmutableCollections$List12", "<init>", "(Ljava/lang/Object;Ljava/lang/Object;)V"⟩ : MethodName)) rfl hown (mvT hZ (Wd hw 284 rfl)) (mvT hZ (Wd hw 285 rfl)) (mvT hZ (Wd hw 287 rfl)) (by decide) (backOf (W := 1) (rm50 l Z a0 hw [] b2 ua ub  h2 n0 Z2 A2 F2_e0 F2_e1 ge_b2) hZ (Wd hw 287 rfl) (Wd hw 283 rfl) (by decide) (by decide)) (g := (mkF m 55 #[sr a1, .unset] [(.ref ub), (.ref ua), (.ref b2), (.ref b2)])) rfl (by rw [hml]; rfl) (Steps.refl _) (a := b2) (argsL := [(.ref ua), (.ref ub)]) (rest := [(.ref b2)]) (lenOf pd_9 rfl) rfl (by show 2 * 0 + _ ≤ _; exact Nat.le_of_eq rfl) (hb hby d9_55) (fun _ _ => ⟨rfl, e2, (by decide : 1 + 0 ≤ _), (by decide : 2 + 0 ≤ _)⟩)
  dsimp only [Pt.U, Pt.locs, Pt.cells, Pt.slots] at X5 l5 y5 z5 st5 hQ5
  subst l5 y5 z5
  obtain ⟨rfl, N5q, Kc5, Ec5, F5_e0, F5_e1⟩ := hQ5
  have F5_35 := F2_12.keep Kc5 (fun q => (Nat.ne_of_lt lt_a1_b2) (List.mem_singleton.mp q))
  have F5_36 := F2_13.keep Kc5
  have F5_37 := F2_14.keep Kc5
  have F5_38 := A2.keep Kc5
  have K5 : Keep h0 T5.heap [] := K2.trans Kc5 (fun x hx => by cases List.mem_singleton.mp hx; exact Or.inr sz_b2)
  have Z5 : n0 ≤ T5.heap.size := Nat.le_trans Z2 Kc5.1
  have O5 := O2.keep Kc5 (fun x hx => by cases List.mem_singleton.mp hx; exact (Nat.le_trans hz ge_b2))
  have N5 := Fr.app N0 N5q
  refine Goes.via (next := T5.setTop (mkF m 58 #[sr a1, .unset] [(.ref b2)])) (fun t k => st5.trans k) ?_
  obtain ⟨fs, hr, hrun, hended, hW, hsame⟩ := X5.leave (v := some (.ref b2)) (fun h => by rw [Bd.returns] at h; cases h)
  refine ⟨_, _, ?_, hrun, hended, _, _, rfl, ?_, ⟨_, rfl⟩, hW, hsame.mono (by decide) (by decide)⟩
  · exact retOut X5 hx (t := (.object "java/util/List")) Bd.returns rfl (Or.inr (Or.inr (Or.inr (Or.inr ⟨rfl, rfl, rfl⟩)))) (hb hby d9_58) hr
  · show Q9_2 Z ua ub h0 n0 _ T5.heap _
    exact ⟨b2, rfl, N5, ge_b2, sz_b2, K5, F5_38, F5_e0, F5_e1⟩
theorem d9_59 : decode jdk_40_method_47_code 59 = .ok (.aload_n 0, 1) := by decide +kernel
theorem d9_60 : decode jdk_40_method_47_code 60 = .ok (.invokestatic 109, 3) := by decide +kernel
theorem d9_63 : decode jdk_40_method_47_code 63 = .ok (.areturn, 1) := by decide +kernel
theorem pd_10 : parseMethodDescriptor "([Ljava/lang/Object;)Ljava/util/List;" = some ⟨[(.array (.object "java/lang/Object"))], some (.object "java/util/List")⟩ := by decide +kernel
theorem ef_9_3 (m : MethodId) (x0 : Addr) : entryFrame m #[(.ref x0)] 2 = mkF m 0 #[.val (.ref x0), .unset] [] := by first | (simp [entryFrame, mkF, argsToLocals, Value.category]; done) | rfl
def Q9_3 (Z : State) (ua ub uc : Addr) (h0 : Heap) (n0 : Nat) (v : Option Value) (h : Heap) (L : List Loc) : Prop := ∃ (r q : Addr) (k : ClassId), v = some (.ref r) ∧ Fr n0 L ∧ n0 ≤ r ∧ h0.size ≤ r ∧ h0.size ≤ q ∧ Keep h0 h [] ∧ Exa Z h r "java/util/ImmutableCollections$ListN" ∧ Fld Z h r "java/util/ImmutableCollections$ListN" "elements" "[Ljava/lang/Object;" (.ref q) ∧ Arv Z h q k (.object "java/lang/Object") (3 : Int32) [.ref ua, .ref ub, .ref uc] .null
set_option maxRecDepth 65536 in
set_option maxHeartbeats 40000000 in
theorem rm9_3 (l : Launch) (Z : State) (a0 : Array Value) (hw : ∀ d ∈ tables_1, d.before a0 Z = true) (ws : List Jvm.Cond) (a1 : Addr) (ua ub uc : Addr) (k1 : ClassId) (w0 : Int32) (rE rL eL : Addr) (kL : ClassId) (nZ : Nat) (h0 : Heap) (n0 : Nat) (Z0 : n0 ≤ h0.size) (V1 : Arv Z h0 a1 k1 (.object "java/lang/String") (3 : Int32) [.ref ua, .ref ub, .ref uc] .null) (Xua : Exa Z h0 ua "java/lang/String") (Xub : Exa Z h0 ub "java/lang/String") (Xuc : Exa Z h0 uc "java/lang/String") (O0 : Old Z nZ h0) (hz : nZ ≤ n0) (St : own_St Z w0 rE rL eL kL) :
    MF l (⟨"java/util/List", "of", "([Ljava/lang/Object;)Ljava/util/List;"⟩ : MethodName) jdk_40_method_47_code 2 (some (.object "java/util/List")) ws ({ frames := 6, cells := 2, slots := 5, locals := 77 } : Room) #[(.ref a1)] Z h0 (Q9_3 Z ua ub uc h0 n0) := by
  refine MetFree.of_bodySF (plainFor_of_name pn_11) hisR ?_
  intro p e s m args below meth c s₁ Bd hml0 hP hK
  obtain ⟨rfl, hZ, hh⟩ := hP
  have hx := Bd.exec
  have hby := Bd.bytes
  have hml : c.maxLocals = 2 := hml0
  have hown : s.vm.findClass "java/util/List" = some m.cls := findClass_of_methodNamed Bd.named
  have hnm := (name_of_methodNamed Bd.named Bd.method).1
  have X0 : Stand p l e ({ frames := 6, cells := 2, slots := 5, locals := 77 } : Room) s m #[(.ref a1)] below meth c s₁ [] 0 0 := Stand.of_body Bd
  have e0 : s₁.heap = h0 := by rw [← hh, Bd.state]; rfl
  have N0 := Fr.nil n0
  refine Goes.via (next := s₁.setTop (mkF m 0 #[.val (.ref a1), .unset] [])) (fun t k => castTop (ef_9_3 m a1) k) ?_
  refine Goes.via (next := s₁.setTop (mkF m 1 #[sr a1, .unset] [(.ref a1)])) (fun t k => XS.aloadN X0.here hx rfl (hb hby d9_0) rfl rfl k) ?_
  obtain ⟨cl1, Ar1, -, Sa1, Na1, -, -⟩ := id V1
  refine Goes.via (next := s₁.setTop (mkF m 2 #[sr a1, .unset] [(.int (3 : Int32))])) (fun t k => X0.arraylength hx (by rw [e0]; exact Ar1.1) (State.isArrayOf_alike hZ.alike Ar1.2.1) (g := (mkF m 1 #[sr a1, .unset] [(.ref a1)])) rfl rfl (hb hby d9_1) _ (by rw [len_of Sa1 Na1]; exact k)) ?_
  refine Goes.via (next := s₁.setTop (mkF m 59 #[sr a1, .unset] [])) (fun t k => XS.tswOut X0.here hx rfl (pc0 := 2) (pc' := 59) rfl (hb hby d9_2) rfl (by decide) (by decide) (by decide) k) ?_
  refine Goes.via (next := s₁.setTop (mkF m 60 #[sr a1, .unset] [(.ref a1)])) (fun t k => XS.aloadN X0.here hx rfl (hb hby d9_59) rfl rfl k) ?_
  obtain ⟨_, _, ⟨T2, L2, k2, n2⟩, -, X2, ⟨Lc2, hQ2, l2, y2, z2⟩, st2⟩ := Jvm.LawKit.callS X0 hx (y := (⟨"java/util/ImmutableCollections", "listFromArray", "([Ljava/lang/Object;)Ljava/util/List;"⟩ : MethodName)) hown (mvT hZ (Wd hw 103 rfl)) (mvT hZ (Wd hw 104 rfl)) (mvT hZ (Wd hw 46 rfl)) (mvT hZ (Wd hw 105 rfl)) (by decide) (backOf (W := 0) (rm18 l Z a0 hw [] a1 ua ub uc k1 w0 rE rL eL kL nZ h0 n0 Z0 V1 Xua Xub Xuc O0 hz St) hZ (Wd hw 105 rfl) (Wd hw 46 rfl) (by decide) (by decide)) (g := (mkF m 60 #[sr a1, .unset] [(.ref a1)])) rfl (by rw [hml]; rfl) (argsL := [(.ref a1)]) (rest := []) (lenOf pd_10 rfl) rfl (by show 2 * 0 + _ ≤ _; exact Nat.le_of_eq rfl) (hb hby d9_60) (fun _ _ => ⟨rfl, e0, (by decide : 0 + 2 ≤ _), (by decide : 0 + 5 ≤ _)⟩)
  dsimp only [Pt.U, Pt.locs, Pt.cells, Pt.slots] at X2 l2 y2 z2 st2 hQ2
  subst l2 y2 z2
  obtain ⟨r2, q2, kt2, rfl, N2q, gr2, zr2, zq2, Kc2, Ec2, Fe2, Vc2⟩ := hQ2
  have lt_a1_r2 : a1 < r2 := Nat.lt_of_lt_of_le V1.lt zr2
  have lt_ua_r2 : ua < r2 := Nat.lt_of_lt_of_le Xua.lt zr2
  have lt_ub_r2 : ub < r2 := Nat.lt_of_lt_of_le Xub.lt zr2
  have lt_uc_r2 : uc < r2 := Nat.lt_of_lt_of_le Xuc.lt zr2
  have sz_r2 : h0.size ≤ r2 := Nat.le_trans (Keep.refl h0 []).1 zr2
  have lt_a1_q2 : a1 < q2 := Nat.lt_of_lt_of_le V1.lt zq2
  have lt_ua_q2 : ua < q2 := Nat.lt_of_lt_of_le Xua.lt zq2
  have lt_ub_q2 : ub < q2 := Nat.lt_of_lt_of_le Xub.lt zq2
  have lt_uc_q2 : uc < q2 := Nat.lt_of_lt_of_le Xuc.lt zq2
  have sz_q2 : h0.size ≤ q2 := Nat.le_trans (Keep.refl h0 []).1 zq2
  have F2_19 := V1.keep Kc2 List.not_mem_nil
  have F2_20 := Xua.keep Kc2
  have F2_21 := Xub.keep Kc2
  have F2_22 := Xuc.keep Kc2
  have K2 : Keep h0 T2.heap [] := (Keep.refl h0 []).trans Kc2 (fun x hx => nomatch hx)
  have Z2 : n0 ≤ T2.heap.size := Nat.le_trans Z0 Kc2.1
  have O2 := O0.keep Kc2 (fun x hx => nomatch hx)
  have N2 := Fr.app N0 N2q
  refine Goes.via (next := T2.setTop (mkF m 63 #[sr a1, .unset] [(.ref r2)])) st2 ?_
  obtain ⟨fs, hr, hrun, hended, hW, hsame⟩ := X2.leave (v := some (.ref r2)) (fun h => by rw [Bd.returns] at h; cases h)
  refine ⟨_, _, ?_, hrun, hended, _, _, rfl, ?_, ⟨_, rfl⟩, hW, hsame.mono (by decide) (by decide)⟩
  · exact retOut X2 hx (t := (.object "java/util/List")) Bd.returns rfl (Or.inr (Or.inr (Or.inr (Or.inr ⟨rfl, rfl, rfl⟩)))) (hb hby d9_63) hr
  · show Q9_3 Z ua ub uc h0 n0 _ T2.heap _
    exact ⟨r2, q2, _, rfl, N2, gr2, sz_r2, sz_q2, K2, Ec2, Fe2, Vc2⟩
theorem d10_0 : decode prog_62_method_1_code 0 = .ok (.aload_n 0, 1) := by decide +kernel
theorem d10_1 : decode prog_62_method_1_code 1 = .ok (.invokespecial 1, 3) := by decide +kernel
theorem d10_4 : decode prog_62_method_1_code 4 = .ok (.aload_n 0, 1) := by decide +kernel
theorem d10_5 : decode prog_62_method_1_code 5 = .ok (.aload_n 1, 1) := by decide +kernel
theorem d10_6 : decode prog_62_method_1_code 6 = .ok (.putfield 7, 3) := by decide +kernel
theorem d10_9 : decode prog_62_method_1_code 9 = .ok (.aload_n 0, 1) := by decide +kernel
theorem d10_10 : decode prog_62_method_1_code 10 = .ok (.aload_n 2, 1) := by decide +kernel
theorem d10_11 : decode prog_62_method_1_code 11 = .ok (.putfield 13, 3) := by decide +kernel
theorem d10_14 : decode prog_62_method_1_code 14 = .ok (.aload_n 0, 1) := by decide +kernel
theorem d10_15 : decode prog_62_method_1_code 15 = .ok (.iload_n 3, 1) := by decide +kernel
theorem d10_16 : decode prog_62_method_1_code 16 = .ok (.putfield 17, 3) := by decide +kernel
theorem d10_19 : decode prog_62_method_1_code 19 = .ok (.return_, 1) := by decide +kernel
theorem pn_12 : plainName "com/example/attributes_to_claims/attributestoclaims/cli/CommandArguments$Option" = true := by first | (simp [plainName, overriddenIn]; done) | decide +kernel
theorem ef_10 (m : MethodId) (x0 : Addr) (x1 : Addr) (x2 : Addr) (x3 : Int32) : entryFrame m #[(.ref x0), (.ref x1), (.ref x2), (.int x3)] 4 = mkF m 0 #[.val (.ref x0), .val (.ref x1), .val (.ref x2), .val (.int x3)] [] := by first | (simp [entryFrame, mkF, argsToLocals, Value.category]; done) | rfl
def Q10 (Z : State) (a1 : Addr) (a2 : Addr) (a3 : Addr) (p4 : Int32)  (h0 : Heap) (n0 : Nat) (v : Option Value) (h : Heap) (L : List Loc) : Prop := v = none ∧ Fr n0 L ∧ Keep h0 h [a1] ∧ Exa Z h a1 "com/example/attributes_to_claims/attributestoclaims/cli/CommandArguments$Option" ∧ Fld Z h a1 "com/example/attributes_to_claims/attributestoclaims/cli/CommandArguments$Option" "names" "Ljava/util/List;" (.ref a2) ∧ Fld Z h a1 "com/example/attributes_to_claims/attributestoclaims/cli/CommandArguments$Option" "label" "Ljava/lang/String;" (.ref a3) ∧ Fld Z h a1 "com/example/attributes_to_claims/attributestoclaims/cli/CommandArguments$Option" "repeatable" "Z" (.int (nar .boolean p4))
set_option maxRecDepth 65536 in
set_option maxHeartbeats 40000000 in
theorem rm10 (l : Launch) (Z : State) (a0 : Array Value) (hw : ∀ d ∈ tables_1, d.before a0 Z = true) (ws : List Jvm.Cond) (a1 : Addr) (a2 : Addr) (a3 : Addr) (p4 : Int32) (h0 : Heap) (n0 : Nat) (Z0 : n0 ≤ h0.size) (E1 : Exa Z h0 a1 "com/example/attributes_to_claims/attributestoclaims/cli/CommandArguments$Option") (F_names : Fld Z h0 a1 "com/example/attributes_to_claims/attributestoclaims/cli/CommandArguments$Option" "names" "Ljava/util/List;" .null) (F_label : Fld Z h0 a1 "com/example/attributes_to_claims/attributestoclaims/cli/CommandArguments$Option" "label" "Ljava/lang/String;" .null) (F_repeatable : Fld Z h0 a1 "com/example/attributes_to_claims/attributestoclaims/cli/CommandArguments$Option" "repeatable" "Z" (.int (0 : Int32))) (g1 : n0 ≤ a1) :
    MF l (⟨"com/example/attributes_to_claims/attributestoclaims/cli/CommandArguments$Option", "<init>", "(Ljava/util/List;Ljava/lang/String;Z)V"⟩ : MethodName) prog_62_method_1_code 4 none ws ({ frames := 2, cells := 0, slots := 0, locals := 24 } : Room) #[(.ref a1), (.ref a2), (.ref a3), (.int p4)] Z h0 (Q10 Z a1 a2 a3 p4 h0 n0) := by
  refine MetFree.of_bodySF (plainFor_of_name pn_12) hisR ?_
  intro p e s m args below meth c s₁ Bd hml0 hP hK
  obtain ⟨rfl, hZ, hh⟩ := hP
  have hx := Bd.exec
  have hby := Bd.bytes
  have hml : c.maxLocals = 4 := hml0
  have hown : s.vm.findClass "com/example/attributes_to_claims/attributestoclaims/cli/CommandArguments$Option" = some m.cls := findClass_of_methodNamed Bd.named
  have hnm := (name_of_methodNamed Bd.named Bd.method).1
  have X0 : Stand p l e ({ frames := 2, cells := 0, slots := 0, locals := 24 } : Room) s m #[(.ref a1), (.ref a2), (.ref a3), (.int p4)] below meth c s₁ [] 0 0 := Stand.of_body Bd
  have e0 : s₁.heap = h0 := by rw [← hh, Bd.state]; rfl
  have N0 := Fr.nil n0
  refine Goes.via (next := s₁.setTop (mkF m 0 #[.val (.ref a1), .val (.ref a2), .val (.ref a3), .val (.int p4)] [])) (fun t k => castTop (ef_10 m a1 a2 a3 p4) k) ?_
  refine Goes.via (next := s₁.setTop (mkF m 1 #[sr a1, sr a2, sr a3, si p4] [(.ref a1)])) (fun t k => XS.aloadN X0.here hx rfl (hb hby d10_0) rfl rfl k) ?_
  obtain ⟨_, _, ⟨T1, L1, k1, n1⟩, -, X1, ⟨Lc1, hQ1, l1, y1, z1⟩, st1⟩ := X0.specialBack hx (y := (⟨"java/lang/Record", "<init>", "()V"⟩ : MethodName)) rfl hown (mvT hZ (Wd hw 53 rfl)) (mvT hZ (Wd hw 54 rfl)) (mvT hZ (Wd hw 57 rfl)) (by decide) (backOf (W := 0) (rm11 l Z a0 hw [] a1  h0 n0 Z0 ) hZ (Wd hw 57 rfl) (Wd hw 56 rfl) (by decide) (by decide)) (g := (mkF m 1 #[sr a1, sr a2, sr a3, si p4] [(.ref a1)])) rfl (by rw [hml]; rfl) (Steps.refl _) (a := a1) (argsL := []) (rest := []) (lenOf pd_5 rfl) rfl (by show 2 * 0 + _ ≤ _; exact Nat.le_of_eq rfl) (hb hby d10_1) (fun _ _ => ⟨rfl, e0, (by decide : 0 + 0 ≤ _), (by decide : 0 + 0 ≤ _)⟩)
  dsimp only [Pt.U, Pt.locs, Pt.cells, Pt.slots] at X1 l1 y1 z1 st1 hQ1
  subst l1 y1 z1
  obtain ⟨rfl, N1q, er1⟩ := hQ1
  have e1 : T1.heap = h0 := er1
  have N1 := Fr.app N0 N1q
  refine Goes.via (next := T1.setTop (mkF m 4 #[sr a1, sr a2, sr a3, si p4] [])) (fun t k => st1.trans k) ?_
  refine Goes.via (next := T1.setTop (mkF m 6 #[sr a1, sr a2, sr a3, si p4] [(.ref a2), (.ref a1)])) (fun t k => XS.aloadN X1.here hx rfl (hb hby d10_4) rfl rfl (XS.aloadN X1.here hx rfl (hb hby d10_5) rfl rfl k)) ?_
  obtain ⟨T2, h2, X2, e2, W2, st2⟩ := putF X1 hx hZ hown (host := "") (Or.inl (Wd hw 59 rfl)) Via.refl e1 F_names E1 (Or.inr ⟨(Wd hw 60 rfl), rfl, hnm⟩) (Wd hw 40 rfl) (ty := (.object "java/util/List")) (by decide) rfl rfl (g := (mkF m 6 #[sr a1, sr a2, sr a3, si p4] [(.ref a2), (.ref a1)])) rfl rfl (hb hby d10_6)
  have Fw2 := F_names.same W2
  have F2_11 := E1.wr W2
  have F2_12 := F_label.other W2 (Or.inr (slot_ne (Or.inr (Wd hw 62 rfl)) (Or.inr (Wd hw 60 rfl)) (by decide) (t := (.object "java/lang/String")) (t' := (.object "java/util/List")) (by decide) (by decide)))
  have F2_13 := F_repeatable.other W2 (Or.inr (slot_ne (Or.inr (Wd hw 64 rfl)) (Or.inr (Wd hw 60 rfl)) (by decide) (t := .boolean) (t' := (.object "java/util/List")) (by decide) (by decide)))
  have K2 : Keep h0 h2 [a1] := (Keep.refl h0 [a1]).wr W2 (Or.inl (List.mem_of_getElem? (i := 0) rfl))
  have Z2 : n0 ≤ h2.size := Nat.le_trans Z0 (Keep.of_wr W2).1
  have N2 := Fr.snoc X2 N1 g1
  refine Goes.via (next := T2.setTop (mkF m 9 #[sr a1, sr a2, sr a3, si p4] [])) st2 ?_
  refine Goes.via (next := T2.setTop (mkF m 11 #[sr a1, sr a2, sr a3, si p4] [(.ref a3), (.ref a1)])) (fun t k => XS.aloadN X2.here hx rfl (hb hby d10_9) rfl rfl (XS.aloadN X2.here hx rfl (hb hby d10_10) rfl rfl k)) ?_
  obtain ⟨T3, h3, X3, e3, W3, st3⟩ := putF X2 hx hZ hown (host := "") (Or.inl (Wd hw 61 rfl)) Via.refl e2 F2_12 F2_11 (Or.inr ⟨(Wd hw 62 rfl), rfl, hnm⟩) (Wd hw 40 rfl) (ty := (.object "java/lang/String")) (by decide) rfl rfl (g := (mkF m 11 #[sr a1, sr a2, sr a3, si p4] [(.ref a3), (.ref a1)])) rfl rfl (hb hby d10_11)
  have Fw3 := F2_12.same W3
  have F3_21 := F2_11.wr W3
  have F3_22 := F2_13.other W3 (Or.inr (slot_ne (Or.inr (Wd hw 64 rfl)) (Or.inr (Wd hw 62 rfl)) (by decide) (t := .boolean) (t' := (.object "java/lang/String")) (by decide) (by decide)))
  have F3_23 := Fw2.other W3 (Or.inr (slot_ne (Or.inr (Wd hw 60 rfl)) (Or.inr (Wd hw 62 rfl)) (by decide) (t := (.object "java/util/List")) (t' := (.object "java/lang/String")) (by decide) (by decide)))
  have K3 : Keep h0 h3 [a1] := K2.wr W3 (Or.inl (List.mem_of_getElem? (i := 0) rfl))
  have Z3 : n0 ≤ h3.size := Nat.le_trans Z2 (Keep.of_wr W3).1
  have N3 := Fr.snoc X3 N2 g1
  refine Goes.via (next := T3.setTop (mkF m 14 #[sr a1, sr a2, sr a3, si p4] [])) st3 ?_
  refine Goes.via (next := T3.setTop (mkF m 16 #[sr a1, sr a2, sr a3, si p4] [(.int p4), (.ref a1)])) (fun t k => XS.aloadN X3.here hx rfl (hb hby d10_14) rfl rfl (XS.iloadN X3.here hx rfl (hb hby d10_15) rfl k)) ?_
  obtain ⟨T4, h4, X4, e4, W4, st4⟩ := putFN X3 hx hZ hown (Wd hw 63 rfl) Via.refl e3 F3_22 F3_21 (Or.inr ⟨(Wd hw 64 rfl), rfl, hnm⟩) (Wd hw 40 rfl) (ty := .boolean) (v' := (.int (nar .boolean p4))) (by decide) rfl (fits_nar_bool _) (g := (mkF m 16 #[sr a1, sr a2, sr a3, si p4] [(.int p4), (.ref a1)])) rfl rfl (hb hby d10_16)
  have Fw4 := F3_22.same W4
  have F4_31 := F3_21.wr W4
  have F4_32 := F3_23.other W4 (Or.inr (slot_ne (Or.inr (Wd hw 60 rfl)) (Or.inr (Wd hw 64 rfl)) (by decide) (t := (.object "java/util/List")) (t' := .boolean) (by decide) (by decide)))
  have F4_33 := Fw3.other W4 (Or.inr (slot_ne (Or.inr (Wd hw 62 rfl)) (Or.inr (Wd hw 64 rfl)) (by decide) (t := (.object "java/lang/String")) (t' := .boolean) (by decide) (by decide)))
  have K4 : Keep h0 h4 [a1] := K3.wr W4 (Or.inl (List.mem_of_getElem? (i := 0) rfl))
  have Z4 : n0 ≤ h4.size := Nat.le_trans Z3 (Keep.of_wr W4).1
  have N4 := Fr.snoc X4 N3 g1
  refine Goes.via (next := T4.setTop (mkF m 19 #[sr a1, sr a2, sr a3, si p4] [])) st4 ?_
  obtain ⟨fs, hr, hrun, hended, hW, hsame⟩ := X4.leave (v := none) (fun _ => rfl)
  refine ⟨_, _, ?_, hrun, hended, _, _, rfl, ?_, ⟨_, rfl⟩, hW, hsame.mono (by decide) (by decide)⟩
  · exact X4.returnOut hx Bd.returns (hb hby d10_19) hr
  · show Q10 Z a1 a2 a3 p4 h0 n0 _ T4.heap _
    rw [e4]
    exact ⟨rfl, N4, K4, F4_31, F4_32, F4_33, Fw4⟩
theorem d8_0 : decode prog_62_method_3_code 0 = .ok (.new 8, 3) := by decide +kernel
theorem d8_3 : decode prog_62_method_3_code 3 = .ok (.dup, 1) := by decide +kernel
theorem d8_4 : decode prog_62_method_3_code 4 = .ok (.aload_n 0, 1) := by decide +kernel
theorem d8_5 : decode prog_62_method_3_code 5 = .ok (.invokestatic 30, 3) := by decide +kernel
theorem d8_8 : decode prog_62_method_3_code 8 = .ok (.ldc 33, 2) := by decide +kernel
theorem d8_10 : decode prog_62_method_3_code 10 = .ok (.iconst 0, 1) := by decide +kernel
theorem d8_11 : decode prog_62_method_3_code 11 = .ok (.invokespecial 27, 3) := by decide +kernel
theorem d8_14 : decode prog_62_method_3_code 14 = .ok (.areturn, 1) := by decide +kernel
theorem pd_11 : parseMethodDescriptor "(Ljava/util/List;Ljava/lang/String;Z)V" = some ⟨[(.object "java/util/List"), (.object "java/lang/String"), .boolean], none⟩ := by decide +kernel
theorem ef_8_0 (m : MethodId) (x0 : Addr) : entryFrame m #[(.ref x0)] 1 = mkF m 0 #[.val (.ref x0)] [] := by first | (simp [entryFrame, mkF, argsToLocals, Value.category]; done) | rfl
def Q8_0 (Z : State) (rL : Addr) (h0 : Heap) (n0 : Nat) (v : Option Value) (h : Heap) (vm : Vm) (L : List Loc) : Prop := ∃ (r r2 la t : Addr) (k : ClassId), v = some (.ref r) ∧ Fr n0 L ∧ Keep h0 h [] ∧ Exa Z h r "com/example/attributes_to_claims/attributestoclaims/cli/CommandArguments$Option" ∧ Fld Z h r "com/example/attributes_to_claims/attributestoclaims/cli/CommandArguments$Option" "names" "Ljava/util/List;" (.ref r2) ∧ Fld Z h r "com/example/attributes_to_claims/attributestoclaims/cli/CommandArguments$Option" "label" "Ljava/lang/String;" (.ref la) ∧ Fld Z h r "com/example/attributes_to_claims/attributestoclaims/cli/CommandArguments$Option" "repeatable" "Z" (.int (0 : Int32)) ∧ (r2 = rL) ∧ Fld Z h la "java/lang/String" "value" "[B" (.ref t) ∧ Exa Z h la "java/lang/String" ∧ Arv Z h t k .byte (0 : Int32) [] (.int (0 : Int32)) ∧ IB Z vm [""]
set_option maxRecDepth 65536 in
set_option maxHeartbeats 40000000 in
theorem rm8_0 (l : Launch) (Z : State) (a0 : Array Value) (hw : ∀ d ∈ tables_1, d.before a0 Z = true) (ws : List Jvm.Cond) (a1 : Addr) (k1 : ClassId) (w0 : Int32) (rE rL eL : Addr) (kL : ClassId) (nZ : Nat) (h0 : Heap) (n0 : Nat) (Z0 : n0 ≤ h0.size) (V1 : Arv Z h0 a1 k1 (.object "java/lang/String") (0 : Int32) [] .null) (O0 : Old Z nZ h0) (hz : nZ ≤ n0) (St : own_St Z w0 rE rL eL kL) (hn0 : n0 = h0.size) (hcE : Jvm.Lit.constHeld Z "com/example/attributes_to_claims/attributestoclaims/cli/CommandArguments$Option" 33) (hcw : Jvm.Lit.compactW.before a0 Z = true) :
    MFS l (⟨"com/example/attributes_to_claims/attributestoclaims/cli/CommandArguments$Option", "flag", "([Ljava/lang/String;)Lcom/example/attributes_to_claims/attributestoclaims/cli/CommandArguments$Option;"⟩ : MethodName) prog_62_method_3_code 1 (some (.object "com/example/attributes_to_claims/attributestoclaims/cli/CommandArguments$Option")) ws ({ frames := 3, cells := 3, slots := 7, locals := 40 } : Room) #[(.ref a1)] Z h0 (fun vm => IB Z vm []) (Q8_0 Z rL h0 n0) := by
  refine MetFree.of_bodySF (plainFor_of_name pn_12) hisR ?_
  intro p e s m args below meth c s₁ Bd hml0 hP hK
  obtain ⟨rfl, hZ, hh, hI⟩ := hP
  have hx := Bd.exec
  have hby := Bd.bytes
  have hml : c.maxLocals = 1 := hml0
  have hown : s.vm.findClass "com/example/attributes_to_claims/attributestoclaims/cli/CommandArguments$Option" = some m.cls := findClass_of_methodNamed Bd.named
  have hnm := (name_of_methodNamed Bd.named Bd.method).1
  have X0 : Stand p l e ({ frames := 3, cells := 3, slots := 7, locals := 40 } : Room) (s.setVm s.vm) m #[(.ref a1)] below meth c s₁ [] 0 0 := Stand.of_body Bd
  have e0 : s₁.heap = h0 := by rw [← hh, Bd.state]; rfl
  have N0 := Fr.nil n0
  have hS : s.Since s.vm 0 := (State.WarmedH.refl s).since 0
  have hk : 0 ≤ h0.size := Nat.zero_le _
  refine Goes.via (next := s₁.setTop (mkF m 0 #[.val (.ref a1)] [])) (fun t k => castTop (ef_8_0 m a1) k) ?_
  obtain ⟨T1, h1, X1, e1, E1, A1, D1, -, st1⟩ := newO X0 hx hZ hown (Wd hw 39 rfl) (Wd hw 40 rfl) (Wd hw 37 rfl) e0 (g := (mkF m 0 #[sr a1] [])) rfl (hb hby d8_0) (by decide) (by decide)
  obtain ⟨b1, g1⟩ : ∃ z, z = h0.size := ⟨_, rfl⟩
  rw [← g1] at A1 D1 st1
  have lt_a1_b1 : a1 < b1 := Nat.lt_of_lt_of_le V1.lt (Nat.le_of_eq g1.symm)
  have ge_b1 : n0 ≤ b1 := Nat.le_trans Z0 (Nat.le_of_eq g1.symm)
  have sz_b1 : h0.size ≤ b1 := Nat.le_trans (Keep.refl h0 []).1 (Nat.le_of_eq g1.symm)
  have F1_6 := V1.ext E1
  have K1 : Keep h0 h1 [] := (Keep.refl h0 []).ext E1
  have Z1 : n0 ≤ h1.size := Nat.le_trans Z0 E1.1
  have O1 := O0.ext E1
  have hk := Nat.le_trans hk E1.1
  have F1_names : Fld Z h1 b1 "com/example/attributes_to_claims/attributestoclaims/cli/CommandArguments$Option" "names" "Ljava/util/List;" .null := D1 (Or.inr (Wd hw 60 rfl)) (ty := (.object "java/util/List")) (by decide)
  have F1_label : Fld Z h1 b1 "com/example/attributes_to_claims/attributestoclaims/cli/CommandArguments$Option" "label" "Ljava/lang/String;" .null := D1 (Or.inr (Wd hw 62 rfl)) (ty := (.object "java/lang/String")) (by decide)
  have F1_repeatable : Fld Z h1 b1 "com/example/attributes_to_claims/attributestoclaims/cli/CommandArguments$Option" "repeatable" "Z" (.int (0 : Int32)) := D1 (Or.inr (Wd hw 64 rfl)) (ty := .boolean) (by decide)
  refine Goes.via (next := T1.setTop (mkF m 3 #[sr a1] [(.ref b1)])) st1 ?_
  refine Goes.via (next := T1.setTop (mkF m 5 #[sr a1] [(.ref a1), (.ref b1), (.ref b1)])) (fun t k => XS.dup X1.here hx rfl (hb hby d8_3) rfl rfl (XS.aloadN X1.here hx rfl (hb hby d8_4) rfl rfl k)) ?_
  obtain ⟨_, _, ⟨T2, L2, k2, n2⟩, -, X2, ⟨Lc2, hQ2, l2, y2, z2⟩, st2⟩ := Jvm.LawKit.callS X1 hx (y := (⟨"java/util/List", "of", "([Ljava/lang/Object;)Ljava/util/List;"⟩ : MethodName)) hown (mvT hZ (Wd hw 41 rfl)) (mvT hZ (Wd hw 42 rfl)) (mvT hZ (Wd hw 43 rfl)) (mvT hZ (Wd hw 44 rfl)) (by decide) (backOf (W := 2) (rm9_0 l Z a0 hw [] a1 k1 w0 rE rL eL kL nZ h1 n0 Z1 F1_6 O1 hz St) hZ (Wd hw 44 rfl) (Wd hw 43 rfl) (by decide) (by decide)) (g := (mkF m 5 #[sr a1] [(.ref a1), (.ref b1), (.ref b1)])) rfl (by rw [hml]; rfl) (argsL := [(.ref a1)]) (rest := [(.ref b1), (.ref b1)]) (lenOf pd_10 rfl) rfl (by show 2 * 0 + _ ≤ _; exact Nat.le_of_eq rfl) (hb hby d8_5) (fun _ _ => ⟨rfl, e1, (by decide : 1 + 0 ≤ _), (by decide : 3 + 0 ≤ _)⟩)
  dsimp only [Pt.U, Pt.locs, Pt.cells, Pt.slots] at X2 l2 y2 z2 st2 hQ2
  subst l2 y2 z2
  obtain ⟨rfl, N2q, er2⟩ := hQ2
  have e2 : T2.heap = h1 := er2
  have N2 := Fr.app N0 N2q
  refine Goes.via (next := T2.setTop (mkF m 8 #[sr a1] [(.ref rL), (.ref b1), (.ref b1)])) st2 ?_
  obtain ⟨la3, T3, h3, kk3, lb3, lk3, X3, e3, E3, S3, hk3, Zw3, ow3, Ex3, Fc3, Fv3, Va3, lta3, ltb3, I3, Lt3, st3⟩ := ldcSVL X2 hx hZ hown (Wd hw 47 rfl) (own_wS hw) e2 hS hk (by rw [hh, ← hn0]; exact N2) (fun b cl q => by rw [hh]; exact O0.2.2 b cl q) hI (by decide) hcE hcw (vs := []) (z := (0 : Int32)) ⟨by decide, by decide⟩ (by decide) (by decide) (g := (mkF m 8 #[sr a1] [(.ref rL), (.ref b1), (.ref b1)])) rfl (hb hby d8_8) (n := 0) (by decide) (by decide) (by decide) (by decide)
  have F3_24 := F1_6.ext E3
  have F3_25 := A1.ext E3
  have F3_26 := F1_names.ext E3
  have F3_27 := F1_label.ext E3
  have F3_28 := F1_repeatable.ext E3
  have K3 : Keep h0 h3 [] := K1.ext E3
  have Z3 : n0 ≤ h3.size := Nat.le_trans Z1 E3.1
  have O3 := O1.ext E3
  have hZ := Zw3
  have hown := ow3
  have hS := S3
  have hk := hk3
  have hI := I3
  have nx3_b1 : la3 ≠ b1 := Exa.ne Ex3 F3_25 (by decide)
  have ny3_b1 : b1 ≠ lb3 := Exa.neArv F3_25 Va3 (Wd hw 40 rfl)
  refine Goes.via (next := T3.setTop (mkF m 10 #[sr a1] [(.ref la3), (.ref rL), (.ref b1), (.ref b1)])) st3 ?_
  refine Goes.via (next := T3.setTop (mkF m 11 #[sr a1] [(.int (0 : Int32)), (.ref la3), (.ref rL), (.ref b1), (.ref b1)])) (fun t k => XS.iconst X3.here hx rfl (hb hby d8_10) k) ?_
  obtain ⟨Lw4, X4w, N4w⟩ := ownPack X3 N2
  obtain ⟨_, _, ⟨T5, L5, k5, n5⟩, -, X5, ⟨Lc5, hQ5, l5, y5, z5⟩, st5⟩ := X4w.specialBack hx (y := (⟨"com/example/attributes_to_claims/attributestoclaims/cli/CommandArguments$Option", "<init>", "(Ljava/util/List;Ljava/lang/String;Z)V"⟩ : MethodName)) rfl hown (mvT hZ (Wd hw 50 rfl)) (mvT hZ (Wd hw 51 rfl)) (mvT hZ (Wd hw 52 rfl)) (by decide) (backOf (W := 1) (rm10 l Z a0 hw [] b1 rL la3 (0 : Int32)  h3 n0 Z3 F3_25 F3_26 F3_27 F3_28 ge_b1) hZ (Wd hw 52 rfl) (Wd hw 37 rfl) (by decide) (by decide)) (g := (mkF m 11 #[sr a1] [(.int (0 : Int32)), (.ref la3), (.ref rL), (.ref b1), (.ref b1)])) rfl (by rw [hml]; rfl) (Steps.refl _) (a := b1) (argsL := [(.ref rL), (.ref la3), (.int (0 : Int32))]) (rest := [(.ref b1)]) (lenOf pd_11 rfl) rfl (by show 2 * 0 + _ ≤ _; exact Nat.le_of_eq rfl) (hb hby d8_11) (fun _ _ => ⟨rfl, e3, (by decide : 3 + 0 ≤ _), (by decide : 7 + 0 ≤ _)⟩)
  dsimp only [Pt.U, Pt.locs, Pt.cells, Pt.slots] at X5 l5 y5 z5 st5 hQ5
  subst l5 y5 z5
  obtain ⟨rfl, N5q, Kc5, Ec5, F5_names, F5_label, F5_repeatable⟩ := hQ5
  have F5_46 := F3_24.keep Kc5 (fun q => (Nat.ne_of_lt lt_a1_b1) (List.mem_singleton.mp q))
  have F5_47 := F3_25.keep Kc5
  have F5_48 := Ex3.keep Kc5
  have F5_49 := Fc3.keep Kc5 (fun q => nx3_b1 (List.mem_singleton.mp q))
  have F5_50 := Fv3.keep Kc5 (fun q => nx3_b1 (List.mem_singleton.mp q))
  have F5_51 := Va3.keep Kc5 (fun q => (Ne.symm ny3_b1) (List.mem_singleton.mp q))
  have K5 : Keep h0 T5.heap [] := K3.trans Kc5 (fun x hx => by cases List.mem_singleton.mp hx; exact Or.inr sz_b1)
  have Z5 : n0 ≤ T5.heap.size := Nat.le_trans Z3 Kc5.1
  have O5 := O3.keep Kc5 (fun x hx => by cases List.mem_singleton.mp hx; exact (Nat.le_trans hz ge_b1))
  have hk := Nat.le_trans hk Kc5.1
  have N5 := Fr.app N4w N5q
  refine Goes.via (next := T5.setTop (mkF m 14 #[sr a1] [(.ref b1)])) (fun t k => st5.trans k) ?_
  obtain ⟨fs, hr, hrun, hended, hRE⟩ := X5.leaveW hS hk (v := some (.ref b1)) (fun h => by rw [Bd.returns] at h; cases h)
  refine ⟨_, _, ?_, hrun, hended, _, _, rfl, ?_, hRE.1, hRE.2.1, hRE.2.2.1, hRE.2.2.2.mono (by decide) (by decide)⟩
  · exact retOut X5 hx (t := (.object "com/example/attributes_to_claims/attributestoclaims/cli/CommandArguments$Option")) Bd.returns rfl (Or.inr (Or.inr (Or.inr (Or.inr ⟨rfl, rfl, rfl⟩)))) (hb hby d8_14) hr
  · show Q8_0 Z rL h0 n0 _ T5.heap _ _
    exact ⟨b1, rL, la3, lb3, _, rfl, N5, K5, F5_47, F5_names, F5_label, F5_repeatable, rfl, F5_50, F5_48, F5_51, hI.warm X5.warmed⟩
theorem ef_8_1 (m : MethodId) (x0 : Addr) : entryFrame m #[(.ref x0)] 1 = mkF m 0 #[.val (.ref x0)] [] := by first | (simp [entryFrame, mkF, argsToLocals, Value.category]; done) | rfl
def Q8_1 (Z : State) (ua rE : Addr) (h0 : Heap) (n0 : Nat) (v : Option Value) (h : Heap) (vm : Vm) (L : List Loc) : Prop := ∃ (r r2 la t : Addr) (k : ClassId), v = some (.ref r) ∧ Fr n0 L ∧ Keep h0 h [] ∧ Exa Z h r "com/example/attributes_to_claims/attributestoclaims/cli/CommandArguments$Option" ∧ Fld Z h r "com/example/attributes_to_claims/attributestoclaims/cli/CommandArguments$Option" "names" "Ljava/util/List;" (.ref r2) ∧ Fld Z h r "com/example/attributes_to_claims/attributestoclaims/cli/CommandArguments$Option" "label" "Ljava/lang/String;" (.ref la) ∧ Fld Z h r "com/example/attributes_to_claims/attributestoclaims/cli/CommandArguments$Option" "repeatable" "Z" (.int (0 : Int32)) ∧ (h0.size ≤ r2 ∧ Exa Z h r2 "java/util/ImmutableCollections$List12" ∧ Fld Z h r2 "java/util/ImmutableCollections$List12" "e0" "Ljava/lang/Object;" (.ref ua) ∧ Fld Z h r2 "java/util/ImmutableCollections$List12" "e1" "Ljava/lang/Object;" (.ref rE)) ∧ Fld Z h la "java/lang/String" "value" "[B" (.ref t) ∧ Exa Z h la "java/lang/String" ∧ Arv Z h t k .byte (0 : Int32) [] (.int (0 : Int32)) ∧ IB Z vm [""]
set_option maxRecDepth 65536 in
set_option maxHeartbeats 40000000 in
theorem rm8_1 (l : Launch) (Z : State) (a0 : Array Value) (hw : ∀ d ∈ tables_1, d.before a0 Z = true) (ws : List Jvm.Cond) (a1 : Addr) (ua : Addr) (k1 : ClassId) (w0 : Int32) (rE rL eL : Addr) (kL : ClassId) (nZ : Nat) (h0 : Heap) (n0 : Nat) (Z0 : n0 ≤ h0.size) (V1 : Arv Z h0 a1 k1 (.object "java/lang/String") (1 : Int32) [.ref ua] .null) (Xua : Exa Z h0 ua "java/lang/String") (O0 : Old Z nZ h0) (hz : nZ ≤ n0) (St : own_St Z w0 rE rL eL kL) (hn0 : n0 = h0.size) (hcE : Jvm.Lit.constHeld Z "com/example/attributes_to_claims/attributestoclaims/cli/CommandArguments$Option" 33) (hcw : Jvm.Lit.compactW.before a0 Z = true) :
    MFS l (⟨"com/example/attributes_to_claims/attributestoclaims/cli/CommandArguments$Option", "flag", "([Ljava/lang/String;)Lcom/example/attributes_to_claims/attributestoclaims/cli/CommandArguments$Option;"⟩ : MethodName) prog_62_method_3_code 1 (some (.object "com/example/attributes_to_claims/attributestoclaims/cli/CommandArguments$Option")) ws ({ frames := 6, cells := 4, slots := 9, locals := 77 } : Room) #[(.ref a1)] Z h0 (fun vm => IB Z vm []) (Q8_1 Z ua rE h0 n0) := by
  refine MetFree.of_bodySF (plainFor_of_name pn_12) hisR ?_
  intro p e s m args below meth c s₁ Bd hml0 hP hK
  obtain ⟨rfl, hZ, hh, hI⟩ := hP
  have hx := Bd.exec
  have hby := Bd.bytes
  have hml : c.maxLocals = 1 := hml0
  have hown : s.vm.findClass "com/example/attributes_to_claims/attributestoclaims/cli/CommandArguments$Option" = some m.cls := findClass_of_methodNamed Bd.named
  have hnm := (name_of_methodNamed Bd.named Bd.method).1
  have X0 : Stand p l e ({ frames := 6, cells := 4, slots := 9, locals := 77 } : Room) (s.setVm s.vm) m #[(.ref a1)] below meth c s₁ [] 0 0 := Stand.of_body Bd
  have e0 : s₁.heap = h0 := by rw [← hh, Bd.state]; rfl
  have N0 := Fr.nil n0
  have hS : s.Since s.vm 0 := (State.WarmedH.refl s).since 0
  have hk : 0 ≤ h0.size := Nat.zero_le _
  refine Goes.via (next := s₁.setTop (mkF m 0 #[.val (.ref a1)] [])) (fun t k => castTop (ef_8_1 m a1) k) ?_
  obtain ⟨T1, h1, X1, e1, E1, A1, D1, -, st1⟩ := newO X0 hx hZ hown (Wd hw 39 rfl) (Wd hw 40 rfl) (Wd hw 37 rfl) e0 (g := (mkF m 0 #[sr a1] [])) rfl (hb hby d8_0) (by decide) (by decide)
  obtain ⟨b1, g1⟩ : ∃ z, z = h0.size := ⟨_, rfl⟩
  rw [← g1] at A1 D1 st1
  have lt_a1_b1 : a1 < b1 := Nat.lt_of_lt_of_le V1.lt (Nat.le_of_eq g1.symm)
  have lt_ua_b1 : ua < b1 := Nat.lt_of_lt_of_le Xua.lt (Nat.le_of_eq g1.symm)
  have ge_b1 : n0 ≤ b1 := Nat.le_trans Z0 (Nat.le_of_eq g1.symm)
  have sz_b1 : h0.size ≤ b1 := Nat.le_trans (Keep.refl h0 []).1 (Nat.le_of_eq g1.symm)
  have F1_7 := V1.ext E1
  have F1_8 := Xua.ext E1
  have K1 : Keep h0 h1 [] := (Keep.refl h0 []).ext E1
  have Z1 : n0 ≤ h1.size := Nat.le_trans Z0 E1.1
  have O1 := O0.ext E1
  have hk := Nat.le_trans hk E1.1
  have F1_names : Fld Z h1 b1 "com/example/attributes_to_claims/attributestoclaims/cli/CommandArguments$Option" "names" "Ljava/util/List;" .null := D1 (Or.inr (Wd hw 60 rfl)) (ty := (.object "java/util/List")) (by decide)
  have F1_label : Fld Z h1 b1 "com/example/attributes_to_claims/attributestoclaims/cli/CommandArguments$Option" "label" "Ljava/lang/String;" .null := D1 (Or.inr (Wd hw 62 rfl)) (ty := (.object "java/lang/String")) (by decide)
  have F1_repeatable : Fld Z h1 b1 "com/example/attributes_to_claims/attributestoclaims/cli/CommandArguments$Option" "repeatable" "Z" (.int (0 : Int32)) := D1 (Or.inr (Wd hw 64 rfl)) (ty := .boolean) (by decide)
  refine Goes.via (next := T1.setTop (mkF m 3 #[sr a1] [(.ref b1)])) st1 ?_
  refine Goes.via (next := T1.setTop (mkF m 5 #[sr a1] [(.ref a1), (.ref b1), (.ref b1)])) (fun t k => XS.dup X1.here hx rfl (hb hby d8_3) rfl rfl (XS.aloadN X1.here hx rfl (hb hby d8_4) rfl rfl k)) ?_
  obtain ⟨_, _, ⟨T2, L2, k2, n2⟩, -, X2, ⟨Lc2, hQ2, l2, y2, z2⟩, st2⟩ := Jvm.LawKit.callS X1 hx (y := (⟨"java/util/List", "of", "([Ljava/lang/Object;)Ljava/util/List;"⟩ : MethodName)) hown (mvT hZ (Wd hw 41 rfl)) (mvT hZ (Wd hw 42 rfl)) (mvT hZ (Wd hw 43 rfl)) (mvT hZ (Wd hw 44 rfl)) (by decide) (backOf (W := 2) (rm9_1 l Z a0 hw [] a1 ua k1 w0 rE rL eL kL nZ h1 n0 Z1 F1_7 F1_8 O1 hz St) hZ (Wd hw 44 rfl) (Wd hw 43 rfl) (by decide) (by decide)) (g := (mkF m 5 #[sr a1] [(.ref a1), (.ref b1), (.ref b1)])) rfl (by rw [hml]; rfl) (argsL := [(.ref a1)]) (rest := [(.ref b1), (.ref b1)]) (lenOf pd_10 rfl) rfl (by show 2 * 0 + _ ≤ _; exact Nat.le_of_eq rfl) (hb hby d8_5) (fun _ _ => ⟨rfl, e1, (by decide : 1 + 1 ≤ _), (by decide : 3 + 2 ≤ _)⟩)
  dsimp only [Pt.U, Pt.locs, Pt.cells, Pt.slots] at X2 l2 y2 z2 st2 hQ2
  subst l2 y2 z2
  obtain ⟨r2, rfl, N2q, gr2, zr2, Kc2, Ec2, Fa2, Fb2⟩ := hQ2
  have lt_a1_r2 : a1 < r2 := Nat.lt_of_lt_of_le F1_7.lt zr2
  have lt_ua_r2 : ua < r2 := Nat.lt_of_lt_of_le F1_8.lt zr2
  have lt_b1_r2 : b1 < r2 := Nat.lt_of_lt_of_le A1.lt zr2
  have sz_r2 : h0.size ≤ r2 := Nat.le_trans K1.1 zr2
  have F2_26 := F1_7.keep Kc2 List.not_mem_nil
  have F2_27 := F1_8.keep Kc2
  have F2_28 := A1.keep Kc2
  have F2_29 := F1_names.keep Kc2 List.not_mem_nil
  have F2_30 := F1_label.keep Kc2 List.not_mem_nil
  have F2_31 := F1_repeatable.keep Kc2 List.not_mem_nil
  have K2 : Keep h0 T2.heap [] := K1.trans Kc2 (fun x hx => nomatch hx)
  have Z2 : n0 ≤ T2.heap.size := Nat.le_trans Z1 Kc2.1
  have O2 := O1.keep Kc2 (fun x hx => nomatch hx)
  have hk := Nat.le_trans hk Kc2.1
  have N2 := Fr.app N0 N2q
  refine Goes.via (next := T2.setTop (mkF m 8 #[sr a1] [(.ref r2), (.ref b1), (.ref b1)])) st2 ?_
  obtain ⟨la3, T3, h3, kk3, lb3, lk3, X3, e3, E3, S3, hk3, Zw3, ow3, Ex3, Fc3, Fv3, Va3, lta3, ltb3, I3, Lt3, st3⟩ := ldcSVL X2 hx hZ hown (Wd hw 47 rfl) (own_wS hw) rfl hS hk (by rw [hh, ← hn0]; exact N2) (fun b cl q => by rw [hh]; exact O0.2.2 b cl q) hI (by decide) hcE hcw (vs := []) (z := (0 : Int32)) ⟨by decide, by decide⟩ (by decide) (by decide) (g := (mkF m 8 #[sr a1] [(.ref r2), (.ref b1), (.ref b1)])) rfl (hb hby d8_8) (n := 0) (by decide) (by decide) (by decide) (by decide)
  have F3_39 := F2_26.ext E3
  have F3_40 := F2_27.ext E3
  have F3_41 := F2_28.ext E3
  have F3_42 := F2_29.ext E3
  have F3_43 := F2_30.ext E3
  have F3_44 := F2_31.ext E3
  have F3_45 := Ec2.ext E3
  have F3_46 := Fa2.ext E3
  have F3_47 := Fb2.ext E3
  have K3 : Keep h0 h3 [] := K2.ext E3
  have Z3 : n0 ≤ h3.size := Nat.le_trans Z2 E3.1
  have O3 := O2.ext E3
  have hZ := Zw3
  have hown := ow3
  have hS := S3
  have hk := hk3
  have hI := I3
  have nx3_b1 : la3 ≠ b1 := Exa.ne Ex3 F3_41 (by decide)
  have ny3_b1 : b1 ≠ lb3 := Exa.neArv F3_41 Va3 (Wd hw 40 rfl)
  have nx3_r2 : la3 ≠ r2 := Exa.ne Ex3 F3_45 (by decide)
  have ny3_r2 : r2 ≠ lb3 := Exa.neArv F3_45 Va3 (Wd hw 282 rfl)
  refine Goes.via (next := T3.setTop (mkF m 10 #[sr a1] [(.ref la3), (.ref r2), (.ref b1), (.ref b1)])) st3 ?_
  refine Goes.via (next := T3.setTop (mkF m 11 #[sr a1] [(.int (0 : Int32)), (.ref la3), (.ref r2), (.ref b1), (.ref b1)])) (fun t k => XS.iconst X3.here hx rfl (hb hby d8_10) k) ?_
  obtain ⟨Lw4, X4w, N4w⟩ := ownPack X3 N2
  obtain ⟨_, _, ⟨T5, L5, k5, n5⟩, -, X5, ⟨Lc5, hQ5, l5, y5, z5⟩, st5⟩ := X4w.specialBack hx (y := (⟨"com/example/attributes_to_claims/attributestoclaims/cli/CommandArguments$Option", "<init>", "(Ljava/util/List;Ljava/lang/String;Z)V"⟩ : MethodName)) rfl hown (mvT hZ (Wd hw 50 rfl)) (mvT hZ (Wd hw 51 rfl)) (mvT hZ (Wd hw 52 rfl)) (by decide) (backOf (W := 1) (rm10 l Z a0 hw [] b1 r2 la3 (0 : Int32)  h3 n0 Z3 F3_41 F3_42 F3_43 F3_44 ge_b1) hZ (Wd hw 52 rfl) (Wd hw 37 rfl) (by decide) (by decide)) (g := (mkF m 11 #[sr a1] [(.int (0 : Int32)), (.ref la3), (.ref r2), (.ref b1), (.ref b1)])) rfl (by rw [hml]; rfl) (Steps.refl _) (a := b1) (argsL := [(.ref r2), (.ref la3), (.int (0 : Int32))]) (rest := [(.ref b1)]) (lenOf pd_11 rfl) rfl (by show 2 * 0 + _ ≤ _; exact Nat.le_of_eq rfl) (hb hby d8_11) (fun _ _ => ⟨rfl, e3, (by decide : 4 + 0 ≤ _), (by decide : 9 + 0 ≤ _)⟩)
  dsimp only [Pt.U, Pt.locs, Pt.cells, Pt.slots] at X5 l5 y5 z5 st5 hQ5
  subst l5 y5 z5
  obtain ⟨rfl, N5q, Kc5, Ec5, F5_names, F5_label, F5_repeatable⟩ := hQ5
  have F5_67 := F3_39.keep Kc5 (fun q => (Nat.ne_of_lt lt_a1_b1) (List.mem_singleton.mp q))
  have F5_68 := F3_40.keep Kc5
  have F5_69 := F3_41.keep Kc5
  have F5_70 := F3_45.keep Kc5
  have F5_71 := F3_46.keep Kc5 (fun q => (Nat.ne_of_gt lt_b1_r2) (List.mem_singleton.mp q))
  have F5_72 := F3_47.keep Kc5 (fun q => (Nat.ne_of_gt lt_b1_r2) (List.mem_singleton.mp q))
  have F5_73 := Ex3.keep Kc5
  have F5_74 := Fc3.keep Kc5 (fun q => nx3_b1 (List.mem_singleton.mp q))
  have F5_75 := Fv3.keep Kc5 (fun q => nx3_b1 (List.mem_singleton.mp q))
  have F5_76 := Va3.keep Kc5 (fun q => (Ne.symm ny3_b1) (List.mem_singleton.mp q))
  have K5 : Keep h0 T5.heap [] := K3.trans Kc5 (fun x hx => by cases List.mem_singleton.mp hx; exact Or.inr sz_b1)
  have Z5 : n0 ≤ T5.heap.size := Nat.le_trans Z3 Kc5.1
  have O5 := O3.keep Kc5 (fun x hx => by cases List.mem_singleton.mp hx; exact (Nat.le_trans hz ge_b1))
  have hk := Nat.le_trans hk Kc5.1
  have N5 := Fr.app N4w N5q
  refine Goes.via (next := T5.setTop (mkF m 14 #[sr a1] [(.ref b1)])) (fun t k => st5.trans k) ?_
  obtain ⟨fs, hr, hrun, hended, hRE⟩ := X5.leaveW hS hk (v := some (.ref b1)) (fun h => by rw [Bd.returns] at h; cases h)
  refine ⟨_, _, ?_, hrun, hended, _, _, rfl, ?_, hRE.1, hRE.2.1, hRE.2.2.1, hRE.2.2.2.mono (by decide) (by decide)⟩
  · exact retOut X5 hx (t := (.object "com/example/attributes_to_claims/attributestoclaims/cli/CommandArguments$Option")) Bd.returns rfl (Or.inr (Or.inr (Or.inr (Or.inr ⟨rfl, rfl, rfl⟩)))) (hb hby d8_14) hr
  · show Q8_1 Z ua rE h0 n0 _ T5.heap _ _
    exact ⟨b1, r2, la3, lb3, _, rfl, N5, K5, F5_69, F5_names, F5_label, F5_repeatable, ⟨sz_r2, F5_70, F5_71, F5_72⟩, F5_75, F5_73, F5_76, hI.warm X5.warmed⟩
theorem ef_8_2 (m : MethodId) (x0 : Addr) : entryFrame m #[(.ref x0)] 1 = mkF m 0 #[.val (.ref x0)] [] := by first | (simp [entryFrame, mkF, argsToLocals, Value.category]; done) | rfl
def Q8_2 (Z : State) (ua ub : Addr) (h0 : Heap) (n0 : Nat) (v : Option Value) (h : Heap) (vm : Vm) (L : List Loc) : Prop := ∃ (r r2 la t : Addr) (k : ClassId), v = some (.ref r) ∧ Fr n0 L ∧ Keep h0 h [] ∧ Exa Z h r "com/example/attributes_to_claims/attributestoclaims/cli/CommandArguments$Option" ∧ Fld Z h r "com/example/attributes_to_claims/attributestoclaims/cli/CommandArguments$Option" "names" "Ljava/util/List;" (.ref r2) ∧ Fld Z h r "com/example/attributes_to_claims/attributestoclaims/cli/CommandArguments$Option" "label" "Ljava/lang/String;" (.ref la) ∧ Fld Z h r "com/example/attributes_to_claims/attributestoclaims/cli/CommandArguments$Option" "repeatable" "Z" (.int (0 : Int32)) ∧ (h0.size ≤ r2 ∧ Exa Z h r2 "java/util/ImmutableCollections$List12" ∧ Fld Z h r2 "java/util/ImmutableCollections$List12" "e0" "Ljava/lang/Object;" (.ref ua) ∧ Fld Z h r2 "java/util/ImmutableCollections$List12" "e1" "Ljava/lang/Object;" (.ref ub)) ∧ Fld Z h la "java/lang/String" "value" "[B" (.ref t) ∧ Exa Z h la "java/lang/String" ∧ Arv Z h t k .byte (0 : Int32) [] (.int (0 : Int32)) ∧ IB Z vm [""]
set_option maxRecDepth 65536 in
set_option maxHeartbeats 40000000 in
theorem rm8_2 (l : Launch) (Z : State) (a0 : Array Value) (hw : ∀ d ∈ tables_1, d.before a0 Z = true) (ws : List Jvm.Cond) (a1 : Addr) (ua ub : Addr) (k1 : ClassId) (w0 : Int32) (rE rL eL : Addr) (kL : ClassId) (nZ : Nat) (h0 : Heap) (n0 : Nat) (Z0 : n0 ≤ h0.size) (V1 : Arv Z h0 a1 k1 (.object "java/lang/String") (2 : Int32) [.ref ua, .ref ub] .null) (Xua : Exa Z h0 ua "java/lang/String") (Xub : Exa Z h0 ub "java/lang/String") (O0 : Old Z nZ h0) (hz : nZ ≤ n0) (St : own_St Z w0 rE rL eL kL) (hn0 : n0 = h0.size) (hcE : Jvm.Lit.constHeld Z "com/example/attributes_to_claims/attributestoclaims/cli/CommandArguments$Option" 33) (hcw : Jvm.Lit.compactW.before a0 Z = true) :
    MFS l (⟨"com/example/attributes_to_claims/attributestoclaims/cli/CommandArguments$Option", "flag", "([Ljava/lang/String;)Lcom/example/attributes_to_claims/attributestoclaims/cli/CommandArguments$Option;"⟩ : MethodName) prog_62_method_3_code 1 (some (.object "com/example/attributes_to_claims/attributestoclaims/cli/CommandArguments$Option")) ws ({ frames := 6, cells := 4, slots := 9, locals := 78 } : Room) #[(.ref a1)] Z h0 (fun vm => IB Z vm []) (Q8_2 Z ua ub h0 n0) := by
  refine MetFree.of_bodySF (plainFor_of_name pn_12) hisR ?_
  intro p e s m args below meth c s₁ Bd hml0 hP hK
  obtain ⟨rfl, hZ, hh, hI⟩ := hP
  have hx := Bd.exec
  have hby := Bd.bytes
  have hml : c.maxLocals = 1 := hml0
  have hown : s.vm.findClass "com/example/attributes_to_claims/attributestoclaims/cli/CommandArguments$Option" = some m.cls := findClass_of_methodNamed Bd.named
  have hnm := (name_of_methodNamed Bd.named Bd.method).1
  have X0 : Stand p l e ({ frames := 6, cells := 4, slots := 9, locals := 78 } : Room) (s.setVm s.vm) m #[(.ref a1)] below meth c s₁ [] 0 0 := Stand.of_body Bd
  have e0 : s₁.heap = h0 := by rw [← hh, Bd.state]; rfl
  have N0 := Fr.nil n0
  have hS : s.Since s.vm 0 := (State.WarmedH.refl s).since 0
  have hk : 0 ≤ h0.size := Nat.zero_le _
  refine Goes.via (next := s₁.setTop (mkF m 0 #[.val (.ref a1)] [])) (fun t k => castTop (ef_8_2 m a1) k) ?_
  obtain ⟨T1, h1, X1, e1, E1, A1, D1, -, st1⟩ := newO X0 hx hZ hown (Wd hw 39 rfl) (Wd hw 40 rfl) (Wd hw 37 rfl) e0 (g := (mkF m 0 #[sr a1] [])) rfl (hb hby d8_0) (by decide) (by decide)
  obtain ⟨b1, g1⟩ : ∃ z, z = h0.size := ⟨_, rfl⟩
  rw [← g1] at A1 D1 st1
  have lt_a1_b1 : a1 < b1 := Nat.lt_of_lt_of_le V1.lt (Nat.le_of_eq g1.symm)
  have lt_ua_b1 : ua < b1 := Nat.lt_of_lt_of_le Xua.lt (Nat.le_of_eq g1.symm)
  have lt_ub_b1 : ub < b1 := Nat.lt_of_lt_of_le Xub.lt (Nat.le_of_eq g1.symm)
  have ge_b1 : n0 ≤ b1 := Nat.le_trans Z0 (Nat.le_of_eq g1.symm)
  have sz_b1 : h0.size ≤ b1 := Nat.le_trans (Keep.refl h0 []).1 (Nat.le_of_eq g1.symm)
  have F1_8 := V1.ext E1
  have F1_9 := Xua.ext E1
  have F1_10 := Xub.ext E1
  have K1 : Keep h0 h1 [] := (Keep.refl h0 []).ext E1
  have Z1 : n0 ≤ h1.size := Nat.le_trans Z0 E1.1
  have O1 := O0.ext E1
  have hk := Nat.le_trans hk E1.1
  have F1_names : Fld Z h1 b1 "com/example/attributes_to_claims/attributestoclaims/cli/CommandArguments$Option" "names" "Ljava/util/List;" .null := D1 (Or.inr (Wd hw 60 rfl)) (ty := (.object "java/util/List")) (by decide)
  have F1_label : Fld Z h1 b1 "com/example/attributes_to_claims/attributestoclaims/cli/CommandArguments$Option" "label" "Ljava/lang/String;" .null := D1 (Or.inr (Wd hw 62 rfl)) (ty := (.object "java/lang/String")) (by decide)
  have F1_repeatable : Fld Z h1 b1 "com/example/attributes_to_claims/attributestoclaims/cli/CommandArguments$Option" "repeatable" "Z" (.int (0 : Int32)) := D1 (Or.inr (Wd hw 64 rfl)) (ty := .boolean) (by decide)
  refine Goes.via (next := T1.setTop (mkF m 3 #[sr a1] [(.ref b1)])) st1 ?_
  refine Goes.via (next := T1.setTop (mkF m 5 #[sr a1] [(.ref a1), (.ref b1), (.ref b1)])) (fun t k => XS.dup X1.here hx rfl (hb hby d8_3) rfl rfl (XS.aloadN X1.here hx rfl (hb hby d8_4) rfl rfl k)) ?_
  obtain ⟨_, _, ⟨T2, L2, k2, n2⟩, -, X2, ⟨Lc2, hQ2, l2, y2, z2⟩, st2⟩ := Jvm.LawKit.callS X1 hx (y := (⟨"java/util/List", "of", "([Ljava/lang/Object;)Ljava/util/List;"⟩ : MethodName)) hown (mvT hZ (Wd hw 41 rfl)) (mvT hZ (Wd hw 42 rfl)) (mvT hZ (Wd hw 43 rfl)) (mvT hZ (Wd hw 44 rfl)) (by decide) (backOf (W := 2) (rm9_2 l Z a0 hw [] a1 ua ub k1 w0 rE rL eL kL nZ h1 n0 Z1 F1_8 F1_9 F1_10 O1 hz St) hZ (Wd hw 44 rfl) (Wd hw 43 rfl) (by decide) (by decide)) (g := (mkF m 5 #[sr a1] [(.ref a1), (.ref b1), (.ref b1)])) rfl (by rw [hml]; rfl) (argsL := [(.ref a1)]) (rest := [(.ref b1), (.ref b1)]) (lenOf pd_10 rfl) rfl (by show 2 * 0 + _ ≤ _; exact Nat.le_of_eq rfl) (hb hby d8_5) (fun _ _ => ⟨rfl, e1, (by decide : 1 + 1 ≤ _), (by decide : 3 + 2 ≤ _)⟩)
  dsimp only [Pt.U, Pt.locs, Pt.cells, Pt.slots] at X2 l2 y2 z2 st2 hQ2
  subst l2 y2 z2
  obtain ⟨r2, rfl, N2q, gr2, zr2, Kc2, Ec2, Fa2, Fb2⟩ := hQ2
  have lt_a1_r2 : a1 < r2 := Nat.lt_of_lt_of_le F1_8.lt zr2
  have lt_ua_r2 : ua < r2 := Nat.lt_of_lt_of_le F1_9.lt zr2
  have lt_ub_r2 : ub < r2 := Nat.lt_of_lt_of_le F1_10.lt zr2
  have lt_b1_r2 : b1 < r2 := Nat.lt_of_lt_of_le A1.lt zr2
  have sz_r2 : h0.size ≤ r2 := Nat.le_trans K1.1 zr2
  have F2_29 := F1_8.keep Kc2 List.not_mem_nil
  have F2_30 := F1_9.keep Kc2
  have F2_31 := F1_10.keep Kc2
  have F2_32 := A1.keep Kc2
  have F2_33 := F1_names.keep Kc2 List.not_mem_nil
  have F2_34 := F1_label.keep Kc2 List.not_mem_nil
  have F2_35 := F1_repeatable.keep Kc2 List.not_mem_nil
  have K2 : Keep h0 T2.heap [] := K1.trans Kc2 (fun x hx => nomatch hx)
  have Z2 : n0 ≤ T2.heap.size := Nat.le_trans Z1 Kc2.1
  have O2 := O1.keep Kc2 (fun x hx => nomatch hx)
  have hk := Nat.le_trans hk Kc2.1
  have N2 := Fr.app N0 N2q
  refine Goes.via (next := T2.setTop (mkF m 8 #[sr a1] [(.ref r2), (.ref b1), (.ref b1)])) st2 ?_
  obtain ⟨la3, T3, h3, kk3, lb3, lk3, X3, e3, E3, S3, hk3, Zw3, ow3, Ex3, Fc3, Fv3, Va3, lta3, ltb3, I3, Lt3, st3⟩ := ldcSVL X2 hx hZ hown (Wd hw 47 rfl) (own_wS hw) rfl hS hk (by rw [hh, ← hn0]; exact N2) (fun b cl q => by rw [hh]; exact O0.2.2 b cl q) hI (by decide) hcE hcw (vs := []) (z := (0 : Int32)) ⟨by decide, by decide⟩ (by decide) (by decide) (g := (mkF m 8 #[sr a1] [(.ref r2), (.ref b1), (.ref b1)])) rfl (hb hby d8_8) (n := 0) (by decide) (by decide) (by decide) (by decide)
  have F3_43 := F2_29.ext E3
  have F3_44 := F2_30.ext E3
  have F3_45 := F2_31.ext E3
  have F3_46 := F2_32.ext E3
  have F3_47 := F2_33.ext E3
  have F3_48 := F2_34.ext E3
  have F3_49 := F2_35.ext E3
  have F3_50 := Ec2.ext E3
  have F3_51 := Fa2.ext E3
  have F3_52 := Fb2.ext E3
  have K3 : Keep h0 h3 [] := K2.ext E3
  have Z3 : n0 ≤ h3.size := Nat.le_trans Z2 E3.1
  have O3 := O2.ext E3
  have hZ := Zw3
  have hown := ow3
  have hS := S3
  have hk := hk3
  have hI := I3
  have nx3_b1 : la3 ≠ b1 := Exa.ne Ex3 F3_46 (by decide)
  have ny3_b1 : b1 ≠ lb3 := Exa.neArv F3_46 Va3 (Wd hw 40 rfl)
  have nx3_r2 : la3 ≠ r2 := Exa.ne Ex3 F3_50 (by decide)
  have ny3_r2 : r2 ≠ lb3 := Exa.neArv F3_50 Va3 (Wd hw 282 rfl)
  refine Goes.via (next := T3.setTop (mkF m 10 #[sr a1] [(.ref la3), (.ref r2), (.ref b1), (.ref b1)])) st3 ?_
  refine Goes.via (next := T3.setTop (mkF m 11 #[sr a1] [(.int (0 : Int32)), (.ref la3), (.ref r2), (.ref b1), (.ref b1)])) (fun t k => XS.iconst X3.here hx rfl (hb hby d8_10) k) ?_
  obtain ⟨Lw4, X4w, N4w⟩ := ownPack X3 N2
  obtain ⟨_, _, ⟨T5, L5, k5, n5⟩, -, X5, ⟨Lc5, hQ5, l5, y5, z5⟩, st5⟩ := X4w.specialBack hx (y := (⟨"com/example/attributes_to_claims/attributestoclaims/cli/CommandArguments$Option", "<init>", "(Ljava/util/List;Ljava/lang/String;Z)V"⟩ : MethodName)) rfl hown (mvT hZ (Wd hw 50 rfl)) (mvT hZ (Wd hw 51 rfl)) (mvT hZ (Wd hw 52 rfl)) (by decide) (backOf (W := 1) (rm10 l Z a0 hw [] b1 r2 la3 (0 : Int32)  h3 n0 Z3 F3_46 F3_47 F3_48 F3_49 ge_b1) hZ (Wd hw 52 rfl) (Wd hw 37 rfl) (by decide) (by decide)) (g := (mkF m 11 #[sr a1] [(.int (0 : Int32)), (.ref la3), (.ref r2), (.ref b1), (.ref b1)])) rfl (by rw [hml]; rfl) (Steps.refl _) (a := b1) (argsL := [(.ref r2), (.ref la3), (.int (0 : Int32))]) (rest := [(.ref b1)]) (lenOf pd_11 rfl) rfl (by show 2 * 0 + _ ≤ _; exact Nat.le_of_eq rfl) (hb hby d8_11) (fun _ _ => ⟨rfl, e3, (by decide : 4 + 0 ≤ _), (by decide : 9 + 0 ≤ _)⟩)
  dsimp only [Pt.U, Pt.locs, Pt.cells, Pt.slots] at X5 l5 y5 z5 st5 hQ5
  subst l5 y5 z5
  obtain ⟨rfl, N5q, Kc5, Ec5, F5_names, F5_label, F5_repeatable⟩ := hQ5
  have F5_72 := F3_43.keep Kc5 (fun q => (Nat.ne_of_lt lt_a1_b1) (List.mem_singleton.mp q))
  have F5_73 := F3_44.keep Kc5
  have F5_74 := F3_45.keep Kc5
  have F5_75 := F3_46.keep Kc5
  have F5_76 := F3_50.keep Kc5
  have F5_77 := F3_51.keep Kc5 (fun q => (Nat.ne_of_gt lt_b1_r2) (List.mem_singleton.mp q))
  have F5_78 := F3_52.keep Kc5 (fun q => (Nat.ne_of_gt lt_b1_r2) (List.mem_singleton.mp q))
  have F5_79 := Ex3.keep Kc5
  have F5_80 := Fc3.keep Kc5 (fun q => nx3_b1 (List.mem_singleton.mp q))
  have F5_81 := Fv3.keep Kc5 (fun q => nx3_b1 (List.mem_singleton.mp q))
  have F5_82 := Va3.keep Kc5 (fun q => (Ne.symm ny3_b1) (List.mem_singleton.mp q))
  have K5 : Keep h0 T5.heap [] := K3.trans Kc5 (fun x hx => by cases List.mem_singleton.mp hx; exact Or.inr sz_b1)
  have Z5 : n0 ≤ T5.heap.size := Nat.le_trans Z3 Kc5.1
  have O5 := O3.keep Kc5 (fun x hx => by cases List.mem_singleton.mp hx; exact (Nat.le_trans hz ge_b1))
  have hk := Nat.le_trans hk Kc5.1
  have N5 := Fr.app N4w N5q
  refine Goes.via (next := T5.setTop (mkF m 14 #[sr a1] [(.ref b1)])) (fun t k => st5.trans k) ?_
  obtain ⟨fs, hr, hrun, hended, hRE⟩ := X5.leaveW hS hk (v := some (.ref b1)) (fun h => by rw [Bd.returns] at h; cases h)
  refine ⟨_, _, ?_, hrun, hended, _, _, rfl, ?_, hRE.1, hRE.2.1, hRE.2.2.1, hRE.2.2.2.mono (by decide) (by decide)⟩
  · exact retOut X5 hx (t := (.object "com/example/attributes_to_claims/attributestoclaims/cli/CommandArguments$Option")) Bd.returns rfl (Or.inr (Or.inr (Or.inr (Or.inr ⟨rfl, rfl, rfl⟩)))) (hb hby d8_14) hr
  · show Q8_2 Z ua ub h0 n0 _ T5.heap _ _
    exact ⟨b1, r2, la3, lb3, _, rfl, N5, K5, F5_75, F5_names, F5_label, F5_repeatable, ⟨sz_r2, F5_76, F5_77, F5_78⟩, F5_81, F5_79, F5_82, hI.warm X5.warmed⟩
theorem ef_8_3 (m : MethodId) (x0 : Addr) : entryFrame m #[(.ref x0)] 1 = mkF m 0 #[.val (.ref x0)] [] := by first | (simp [entryFrame, mkF, argsToLocals, Value.category]; done) | rfl
def Q8_3 (Z : State) (ua ub uc : Addr) (h0 : Heap) (n0 : Nat) (v : Option Value) (h : Heap) (vm : Vm) (L : List Loc) : Prop := ∃ (r r2 la t : Addr) (k : ClassId), v = some (.ref r) ∧ Fr n0 L ∧ Keep h0 h [] ∧ Exa Z h r "com/example/attributes_to_claims/attributestoclaims/cli/CommandArguments$Option" ∧ Fld Z h r "com/example/attributes_to_claims/attributestoclaims/cli/CommandArguments$Option" "names" "Ljava/util/List;" (.ref r2) ∧ Fld Z h r "com/example/attributes_to_claims/attributestoclaims/cli/CommandArguments$Option" "label" "Ljava/lang/String;" (.ref la) ∧ Fld Z h r "com/example/attributes_to_claims/attributestoclaims/cli/CommandArguments$Option" "repeatable" "Z" (.int (0 : Int32)) ∧ (h0.size ≤ r2 ∧ Exa Z h r2 "java/util/ImmutableCollections$ListN" ∧ ∃ (q : Addr) (kq : ClassId), h0.size ≤ q ∧ Fld Z h r2 "java/util/ImmutableCollections$ListN" "elements" "[Ljava/lang/Object;" (.ref q) ∧ Arv Z h q kq (.object "java/lang/Object") (3 : Int32) [.ref ua, .ref ub, .ref uc] .null) ∧ Fld Z h la "java/lang/String" "value" "[B" (.ref t) ∧ Exa Z h la "java/lang/String" ∧ Arv Z h t k .byte (0 : Int32) [] (.int (0 : Int32)) ∧ IB Z vm [""]
set_option maxRecDepth 65536 in
set_option maxHeartbeats 40000000 in
theorem rm8_3 (l : Launch) (Z : State) (a0 : Array Value) (hw : ∀ d ∈ tables_1, d.before a0 Z = true) (ws : List Jvm.Cond) (a1 : Addr) (ua ub uc : Addr) (k1 : ClassId) (w0 : Int32) (rE rL eL : Addr) (kL : ClassId) (nZ : Nat) (h0 : Heap) (n0 : Nat) (Z0 : n0 ≤ h0.size) (V1 : Arv Z h0 a1 k1 (.object "java/lang/String") (3 : Int32) [.ref ua, .ref ub, .ref uc] .null) (Xua : Exa Z h0 ua "java/lang/String") (Xub : Exa Z h0 ub "java/lang/String") (Xuc : Exa Z h0 uc "java/lang/String") (O0 : Old Z nZ h0) (hz : nZ ≤ n0) (St : own_St Z w0 rE rL eL kL) (hn0 : n0 = h0.size) (hcE : Jvm.Lit.constHeld Z "com/example/attributes_to_claims/attributestoclaims/cli/CommandArguments$Option" 33) (hcw : Jvm.Lit.compactW.before a0 Z = true) :
    MFS l (⟨"com/example/attributes_to_claims/attributestoclaims/cli/CommandArguments$Option", "flag", "([Ljava/lang/String;)Lcom/example/attributes_to_claims/attributestoclaims/cli/CommandArguments$Option;"⟩ : MethodName) prog_62_method_3_code 1 (some (.object "com/example/attributes_to_claims/attributestoclaims/cli/CommandArguments$Option")) ws ({ frames := 7, cells := 5, slots := 12, locals := 92 } : Room) #[(.ref a1)] Z h0 (fun vm => IB Z vm []) (Q8_3 Z ua ub uc h0 n0) := by
  refine MetFree.of_bodySF (plainFor_of_name pn_12) hisR ?_
  intro p e s m args below meth c s₁ Bd hml0 hP hK
  obtain ⟨rfl, hZ, hh, hI⟩ := hP
  have hx := Bd.exec
  have hby := Bd.bytes
  have hml : c.maxLocals = 1 := hml0
  have hown : s.vm.findClass "com/example/attributes_to_claims/attributestoclaims/cli/CommandArguments$Option" = some m.cls := findClass_of_methodNamed Bd.named
  have hnm := (name_of_methodNamed Bd.named Bd.method).1
  have X0 : Stand p l e ({ frames := 7, cells := 5, slots := 12, locals := 92 } : Room) (s.setVm s.vm) m #[(.ref a1)] below meth c s₁ [] 0 0 := Stand.of_body Bd
  have e0 : s₁.heap = h0 := by rw [← hh, Bd.state]; rfl
  have N0 := Fr.nil n0
  have hS : s.Since s.vm 0 := (State.WarmedH.refl s).since 0
  have hk : 0 ≤ h0.size := Nat.zero_le _
  refine Goes.via (next := s₁.setTop (mkF m 0 #[.val (.ref a1)] [])) (fun t k => castTop (ef_8_3 m a1) k) ?_
  obtain ⟨T1, h1, X1, e1, E1, A1, D1, -, st1⟩ := newO X0 hx hZ hown (Wd hw 39 rfl) (Wd hw 40 rfl) (Wd hw 37 rfl) e0 (g := (mkF m 0 #[sr a1] [])) rfl (hb hby d8_0) (by decide) (by decide)
  obtain ⟨b1, g1⟩ : ∃ z, z = h0.size := ⟨_, rfl⟩
  rw [← g1] at A1 D1 st1
  have lt_a1_b1 : a1 < b1 := Nat.lt_of_lt_of_le V1.lt (Nat.le_of_eq g1.symm)
  have lt_ua_b1 : ua < b1 := Nat.lt_of_lt_of_le Xua.lt (Nat.le_of_eq g1.symm)
  have lt_ub_b1 : ub < b1 := Nat.lt_of_lt_of_le Xub.lt (Nat.le_of_eq g1.symm)
  have lt_uc_b1 : uc < b1 := Nat.lt_of_lt_of_le Xuc.lt (Nat.le_of_eq g1.symm)
  have ge_b1 : n0 ≤ b1 := Nat.le_trans Z0 (Nat.le_of_eq g1.symm)
  have sz_b1 : h0.size ≤ b1 := Nat.le_trans (Keep.refl h0 []).1 (Nat.le_of_eq g1.symm)
  have F1_9 := V1.ext E1
  have F1_10 := Xua.ext E1
  have F1_11 := Xub.ext E1
  have F1_12 := Xuc.ext E1
  have K1 : Keep h0 h1 [] := (Keep.refl h0 []).ext E1
  have Z1 : n0 ≤ h1.size := Nat.le_trans Z0 E1.1
  have O1 := O0.ext E1
  have hk := Nat.le_trans hk E1.1
  have F1_names : Fld Z h1 b1 "com/example/attributes_to_claims/attributestoclaims/cli/CommandArguments$Option" "names" "Ljava/util/List;" .null := D1 (Or.inr (Wd hw 60 rfl)) (ty := (.object "java/util/List")) (by decide)
  have F1_label : Fld Z h1 b1 "com/example/attributes_to_claims/attributestoclaims/cli/CommandArguments$Option" "label" "Ljava/lang/String;" .null := D1 (Or.inr (Wd hw 62 rfl)) (ty := (.object "java/lang/String")) (by decide)
  have F1_repeatable : Fld Z h1 b1 "com/example/attributes_to_claims/attributestoclaims/cli/CommandArguments$Option" "repeatable" "Z" (.int (0 : Int32)) := D1 (Or.inr (Wd hw 64 rfl)) (ty := .boolean) (by decide)
  refine Goes.via (next := T1.setTop (mkF m 3 #[sr a1] [(.ref b1)])) st1 ?_
  refine Goes.via (next := T1.setTop (mkF m 5 #[sr a1] [(.ref a1), (.ref b1), (.ref b1)])) (fun t k => XS.dup X1.here hx rfl (hb hby d8_3) rfl rfl (XS.aloadN X1.here hx rfl (hb hby d8_4) rfl rfl k)) ?_
  obtain ⟨_, _, ⟨T2, L2, k2, n2⟩, -, X2, ⟨Lc2, hQ2, l2, y2, z2⟩, st2⟩ := Jvm.LawKit.callS X1 hx (y := (⟨"java/util/List", "of", "([Ljava/lang/Object;)Ljava/util/List;"⟩ : MethodName)) hown (mvT hZ (Wd hw 41 rfl)) (mvT hZ (Wd hw 42 rfl)) (mvT hZ (Wd hw 43 rfl)) (mvT hZ (Wd hw 44 rfl)) (by decide) (backOf (W := 2) (rm9_3 l Z a0 hw [] a1 ua ub uc k1 w0 rE rL eL kL nZ h1 n0 Z1 F1_9 F1_10 F1_11 F1_12 O1 hz St) hZ (Wd hw 44 rfl) (Wd hw 43 rfl) (by decide) (by decide)) (g := (mkF m 5 #[sr a1] [(.ref a1), (.ref b1), (.ref b1)])) rfl (by rw [hml]; rfl) (argsL := [(.ref a1)]) (rest := [(.ref b1), (.ref b1)]) (lenOf pd_10 rfl) rfl (by show 2 * 0 + _ ≤ _; exact Nat.le_of_eq rfl) (hb hby d8_5) (fun _ _ => ⟨rfl, e1, (by decide : 1 + 2 ≤ _), (by decide : 3 + 5 ≤ _)⟩)
  dsimp only [Pt.U, Pt.locs, Pt.cells, Pt.slots] at X2 l2 y2 z2 st2 hQ2
  subst l2 y2 z2
  obtain ⟨r2, q2, kt2, rfl, N2q, gr2, zr2, zq2, Kc2, Ec2, Fe2, Vc2⟩ := hQ2
  have lt_a1_r2 : a1 < r2 := Nat.lt_of_lt_of_le F1_9.lt zr2
  have lt_ua_r2 : ua < r2 := Nat.lt_of_lt_of_le F1_10.lt zr2
  have lt_ub_r2 : ub < r2 := Nat.lt_of_lt_of_le F1_11.lt zr2
  have lt_uc_r2 : uc < r2 := Nat.lt_of_lt_of_le F1_12.lt zr2
  have lt_b1_r2 : b1 < r2 := Nat.lt_of_lt_of_le A1.lt zr2
  have sz_r2 : h0.size ≤ r2 := Nat.le_trans K1.1 zr2
  have lt_a1_q2 : a1 < q2 := Nat.lt_of_lt_of_le F1_9.lt zq2
  have lt_ua_q2 : ua < q2 := Nat.lt_of_lt_of_le F1_10.lt zq2
  have lt_ub_q2 : ub < q2 := Nat.lt_of_lt_of_le F1_11.lt zq2
  have lt_uc_q2 : uc < q2 := Nat.lt_of_lt_of_le F1_12.lt zq2
  have lt_b1_q2 : b1 < q2 := Nat.lt_of_lt_of_le A1.lt zq2
  have sz_q2 : h0.size ≤ q2 := Nat.le_trans K1.1 zq2
  have F2_38 := F1_9.keep Kc2 List.not_mem_nil
  have F2_39 := F1_10.keep Kc2
  have F2_40 := F1_11.keep Kc2
  have F2_41 := F1_12.keep Kc2
  have F2_42 := A1.keep Kc2
  have F2_43 := F1_names.keep Kc2 List.not_mem_nil
  have F2_44 := F1_label.keep Kc2 List.not_mem_nil
  have F2_45 := F1_repeatable.keep Kc2 List.not_mem_nil
  have K2 : Keep h0 T2.heap [] := K1.trans Kc2 (fun x hx => nomatch hx)
  have Z2 : n0 ≤ T2.heap.size := Nat.le_trans Z1 Kc2.1
  have O2 := O1.keep Kc2 (fun x hx => nomatch hx)
  have hk := Nat.le_trans hk Kc2.1
  have N2 := Fr.app N0 N2q
  refine Goes.via (next := T2.setTop (mkF m 8 #[sr a1] [(.ref r2), (.ref b1), (.ref b1)])) st2 ?_
  obtain ⟨la3, T3, h3, kk3, lb3, lk3, X3, e3, E3, S3, hk3, Zw3, ow3, Ex3, Fc3, Fv3, Va3, lta3, ltb3, I3, Lt3, st3⟩ := ldcSVL X2 hx hZ hown (Wd hw 47 rfl) (own_wS hw) rfl hS hk (by rw [hh, ← hn0]; exact N2) (fun b cl q => by rw [hh]; exact O0.2.2 b cl q) hI (by decide) hcE hcw (vs := []) (z := (0 : Int32)) ⟨by decide, by decide⟩ (by decide) (by decide) (g := (mkF m 8 #[sr a1] [(.ref r2), (.ref b1), (.ref b1)])) rfl (hb hby d8_8) (n := 0) (by decide) (by decide) (by decide) (by decide)
  have F3_53 := F2_38.ext E3
  have F3_54 := F2_39.ext E3
  have F3_55 := F2_40.ext E3
  have F3_56 := F2_41.ext E3
  have F3_57 := F2_42.ext E3
  have F3_58 := F2_43.ext E3
  have F3_59 := F2_44.ext E3
  have F3_60 := F2_45.ext E3
  have F3_61 := Ec2.ext E3
  have F3_62 := Fe2.ext E3
  have F3_63 := Vc2.ext E3
  have K3 : Keep h0 h3 [] := K2.ext E3
  have Z3 : n0 ≤ h3.size := Nat.le_trans Z2 E3.1
  have O3 := O2.ext E3
  have hZ := Zw3
  have hown := ow3
  have hS := S3
  have hk := hk3
  have hI := I3
  have nx3_b1 : la3 ≠ b1 := Exa.ne Ex3 F3_57 (by decide)
  have ny3_b1 : b1 ≠ lb3 := Exa.neArv F3_57 Va3 (Wd hw 40 rfl)
  have nx3_r2 : la3 ≠ r2 := Exa.ne Ex3 F3_61 (by decide)
  have ny3_r2 : r2 ≠ lb3 := Exa.neArv F3_61 Va3 (Wd hw 114 rfl)
  refine Goes.via (next := T3.setTop (mkF m 10 #[sr a1] [(.ref la3), (.ref r2), (.ref b1), (.ref b1)])) st3 ?_
  refine Goes.via (next := T3.setTop (mkF m 11 #[sr a1] [(.int (0 : Int32)), (.ref la3), (.ref r2), (.ref b1), (.ref b1)])) (fun t k => XS.iconst X3.here hx rfl (hb hby d8_10) k) ?_
  obtain ⟨Lw4, X4w, N4w⟩ := ownPack X3 N2
  obtain ⟨_, _, ⟨T5, L5, k5, n5⟩, -, X5, ⟨Lc5, hQ5, l5, y5, z5⟩, st5⟩ := X4w.specialBack hx (y := (⟨"com/example/attributes_to_claims/attributestoclaims/cli/CommandArguments$Option", "<init>", "(Ljava/util/List;Ljava/lang/String;Z)V"⟩ : MethodName)) rfl hown (mvT hZ (Wd hw 50 rfl)) (mvT hZ (Wd hw 51 rfl)) (mvT hZ (Wd hw 52 rfl)) (by decide) (backOf (W := 1) (rm10 l Z a0 hw [] b1 r2 la3 (0 : Int32)  h3 n0 Z3 F3_57 F3_58 F3_59 F3_60 ge_b1) hZ (Wd hw 52 rfl) (Wd hw 37 rfl) (by decide) (by decide)) (g := (mkF m 11 #[sr a1] [(.int (0 : Int32)), (.ref la3), (.ref r2), (.ref b1), (.ref b1)])) rfl (by rw [hml]; rfl) (Steps.refl _) (a := b1) (argsL := [(.ref r2), (.ref la3), (.int (0 : Int32))]) (rest := [(.ref b1)]) (lenOf pd_11 rfl) rfl (by show 2 * 0 + _ ≤ _; exact Nat.le_of_eq rfl) (hb hby d8_11) (fun _ _ => ⟨rfl, e3, (by decide : 5 + 0 ≤ _), (by decide : 12 + 0 ≤ _)⟩)
  dsimp only [Pt.U, Pt.locs, Pt.cells, Pt.slots] at X5 l5 y5 z5 st5 hQ5
  subst l5 y5 z5
  obtain ⟨rfl, N5q, Kc5, Ec5, F5_names, F5_label, F5_repeatable⟩ := hQ5
  have F5_83 := F3_53.keep Kc5 (fun q => (Nat.ne_of_lt lt_a1_b1) (List.mem_singleton.mp q))
  have F5_84 := F3_54.keep Kc5
  have F5_85 := F3_55.keep Kc5
  have F5_86 := F3_56.keep Kc5
  have F5_87 := F3_57.keep Kc5
  have F5_88 := F3_61.keep Kc5
  have F5_89 := F3_62.keep Kc5 (fun q => (Nat.ne_of_gt lt_b1_r2) (List.mem_singleton.mp q))
  have F5_90 := F3_63.keep Kc5 (fun q => (Nat.ne_of_gt lt_b1_q2) (List.mem_singleton.mp q))
  have F5_91 := Ex3.keep Kc5
  have F5_92 := Fc3.keep Kc5 (fun q => nx3_b1 (List.mem_singleton.mp q))
  have F5_93 := Fv3.keep Kc5 (fun q => nx3_b1 (List.mem_singleton.mp q))
  have F5_94 := Va3.keep Kc5 (fun q => (Ne.symm ny3_b1) (List.mem_singleton.mp q))
  have K5 : Keep h0 T5.heap [] := K3.trans Kc5 (fun x hx => by cases List.mem_singleton.mp hx; exact Or.inr sz_b1)
  have Z5 : n0 ≤ T5.heap.size := Nat.le_trans Z3 Kc5.1
  have O5 := O3.keep Kc5 (fun x hx => by cases List.mem_singleton.mp hx; exact (Nat.le_trans hz ge_b1))
  have hk := Nat.le_trans hk Kc5.1
  have N5 := Fr.app N4w N5q
  refine Goes.via (next := T5.setTop (mkF m 14 #[sr a1] [(.ref b1)])) (fun t k => st5.trans k) ?_
  obtain ⟨fs, hr, hrun, hended, hRE⟩ := X5.leaveW hS hk (v := some (.ref b1)) (fun h => by rw [Bd.returns] at h; cases h)
  refine ⟨_, _, ?_, hrun, hended, _, _, rfl, ?_, hRE.1, hRE.2.1, hRE.2.2.1, hRE.2.2.2.mono (by decide) (by decide)⟩
  · exact retOut X5 hx (t := (.object "com/example/attributes_to_claims/attributestoclaims/cli/CommandArguments$Option")) Bd.returns rfl (Or.inr (Or.inr (Or.inr (Or.inr ⟨rfl, rfl, rfl⟩)))) (hb hby d8_14) hr
  · show Q8_3 Z ua ub uc h0 n0 _ T5.heap _ _
    exact ⟨b1, r2, la3, lb3, _, rfl, N5, K5, F5_87, F5_names, F5_label, F5_repeatable, ⟨sz_r2, F5_88, q2, _, sz_q2, F5_89, F5_90⟩, F5_93, F5_91, F5_94, hI.warm X5.warmed⟩
theorem d32_0 : decode jdk_42_method_152_code 0 = .ok (.getstatic 38, 3) := by decide +kernel
theorem d32_3 : decode jdk_42_method_152_code 3 = .ok (.ifCond .eq 10, 3) := by decide +kernel
theorem d32_6 : decode jdk_42_method_152_code 6 = .ok (.aload_n 0, 1) := by decide +kernel
theorem d32_7 : decode jdk_42_method_152_code 7 = .ok (.getfield 15, 3) := by decide +kernel
theorem d32_10 : decode jdk_42_method_152_code 10 = .ok (.goto 4, 3) := by decide +kernel
theorem d32_14 : decode jdk_42_method_152_code 14 = .ok (.ireturn, 1) := by decide +kernel
theorem ef_32 (m : MethodId) (x0 : Addr) : entryFrame m #[(.ref x0)] 1 = mkF m 0 #[.val (.ref x0)] [] := by first | (simp [entryFrame, mkF, argsToLocals, Value.category]; done) | rfl
def Q32 (Z : State) (h0 : Heap) (n0 : Nat) (v : Option Value) (h : Heap) (L : List Loc) : Prop := v = some (.int (0 : Int32)) ∧ Fr n0 L ∧ h = h0
set_option maxRecDepth 65536 in
set_option maxHeartbeats 40000000 in
theorem rm32 (l : Launch) (Z : State) (a0 : Array Value) (hw : ∀ d ∈ tables_1, d.before a0 Z = true) (ws : List Jvm.Cond) (a1 : Addr) (w0 : Int32) (rE rL eL : Addr) (kL : ClassId) (nZ : Nat) (h0 : Heap) (n0 : Nat) (Z0 : n0 ≤ h0.size) (Fc : Fld Z h0 a1 "java/lang/String" "coder" "B" (.int (0 : Int32))) (O0 : Old Z nZ h0) (hz : nZ ≤ n0) (St : own_St Z w0 rE rL eL kL) :
    MF l (⟨"java/lang/String", "coder", "()B"⟩ : MethodName) jdk_42_method_152_code 1 (some .byte) ws ({ frames := 0, cells := 0, slots := 0, locals := 0 } : Room) #[(.ref a1)] Z h0 (Q32 Z  h0 n0) := by
  refine MetFree.of_bodySF (plainFor_of_name pn_1) hisR ?_
  intro p e s m args below meth c s₁ Bd hml0 hP hK
  obtain ⟨rfl, hZ, hh⟩ := hP
  have hx := Bd.exec
  have hby := Bd.bytes
  have hml : c.maxLocals = 1 := hml0
  have hown : s.vm.findClass "java/lang/String" = some m.cls := findClass_of_methodNamed Bd.named
  have hnm := (name_of_methodNamed Bd.named Bd.method).1
  have X0 : Stand p l e ({ frames := 0, cells := 0, slots := 0, locals := 0 } : Room) s m #[(.ref a1)] below meth c s₁ [] 0 0 := Stand.of_body Bd
  have e0 : s₁.heap = h0 := by rw [← hh, Bd.state]; rfl
  have N0 := Fr.nil n0
  refine Goes.via (next := s₁.setTop (mkF m 0 #[.val (.ref a1)] [])) (fun t k => castTop (ef_32 m a1) k) ?_
  obtain ⟨T1, X1, e1, st1⟩ := getS2 X0 hx hZ hown (host := "") (Or.inl (Wd hw 18 rfl)) Via.refl e0 (St.1.ext O0.2) (g := (mkF m 0 #[sr a1] [])) rfl (hb hby d32_0)
  refine Goes.via (next := T1.setTop (mkF m 3 #[sr a1] [(.int w0)])) st1 ?_
  have hc3_2 : ¬ (w0 = (0 : Int32)) := St.2.1
  refine Goes.via (next := T1.setTop (mkF m 6 #[sr a1] [])) (fun t k => XS.ifNo X1.here hx rfl (hb hby d32_3) rfl ((if0 _ _).trans (feq hc3_2).1) k) ?_
  refine Goes.via (next := T1.setTop (mkF m 7 #[sr a1] [(.ref a1)])) (fun t k => XS.aloadN X1.here hx rfl (hb hby d32_6) rfl rfl k) ?_
  obtain ⟨T3, X3, e3, st3⟩ := getF X1 hx hZ hown (host := "") (Or.inl (Wd hw 30 rfl)) Via.refl e1 Fc (g := (mkF m 7 #[sr a1] [(.ref a1)])) rfl rfl (hb hby d32_7)
  refine Goes.via (next := T3.setTop (mkF m 10 #[sr a1] [(.int (0 : Int32))])) st3 ?_
  refine Goes.via (next := T3.setTop (mkF m 14 #[sr a1] [(.int (0 : Int32))])) (fun t k => XS.goto X3.here hx rfl (pc0 := 10) (pc' := 14) rfl (hb hby d32_10) (by decide) (by decide) k) ?_
  obtain ⟨fs, hr, hrun, hended, hW, hsame⟩ := X3.leave (v := some (.int (0 : Int32))) (fun h => by rw [Bd.returns] at h; cases h)
  refine ⟨_, _, ?_, hrun, hended, _, _, rfl, ?_, ⟨_, rfl⟩, hW, hsame.mono (by decide) (by decide)⟩
  · exact retN X3 hx (t := .byte) Bd.returns (by simp) (hb hby d32_14) hr
  · show Q32 Z  h0 n0 _ T3.heap _
    rw [e3]
    exact ⟨rfl, N0, rfl⟩
theorem d31_0 : decode jdk_42_method_54_code 0 = .ok (.aload_n 0, 1) := by decide +kernel
theorem d31_1 : decode jdk_42_method_54_code 1 = .ok (.getfield 9, 3) := by decide +kernel
theorem d31_4 : decode jdk_42_method_54_code 4 = .ok (.arraylength, 1) := by decide +kernel
theorem d31_5 : decode jdk_42_method_54_code 5 = .ok (.aload_n 0, 1) := by decide +kernel
theorem d31_6 : decode jdk_42_method_54_code 6 = .ok (.invokevirtual 335, 3) := by decide +kernel
theorem d31_9 : decode jdk_42_method_54_code 9 = .ok (.ishr, 1) := by decide +kernel
theorem d31_10 : decode jdk_42_method_54_code 10 = .ok (.ireturn, 1) := by decide +kernel
theorem pd_12 : parseMethodDescriptor "()B" = some ⟨[], some .byte⟩ := by decide +kernel
theorem ef_31_1 (m : MethodId) (x0 : Addr) : entryFrame m #[(.ref x0)] 1 = mkF m 0 #[.val (.ref x0)] [] := by first | (simp [entryFrame, mkF, argsToLocals, Value.category]; done) | rfl
def Q31_1 (Z : State) (h0 : Heap) (n0 : Nat) (v : Option Value) (h : Heap) (L : List Loc) : Prop := v = some (.int (1 : Int32)) ∧ Fr n0 L ∧ h = h0
set_option maxRecDepth 65536 in
set_option maxHeartbeats 40000000 in
theorem rm31_1 (l : Launch) (Z : State) (a0 : Array Value) (hw : ∀ d ∈ tables_1, d.before a0 Z = true) (ws : List Jvm.Cond) (a1 : Addr) (t1 : Addr) (k1 : ClassId) (vs : List Value) (w0 : Int32) (rE rL eL : Addr) (kL : ClassId) (nZ : Nat) (h0 : Heap) (n0 : Nat) (Z0 : n0 ≤ h0.size) (E1 : Exa Z h0 a1 "java/lang/String") (Fv : Fld Z h0 a1 "java/lang/String" "value" "[B" (.ref t1)) (Fc : Fld Z h0 a1 "java/lang/String" "coder" "B" (.int (0 : Int32))) (V1 : Arv Z h0 t1 k1 .byte (1 : Int32) vs (.int (0 : Int32))) (O0 : Old Z nZ h0) (hz : nZ ≤ n0) (St : own_St Z w0 rE rL eL kL) :
    MF l (⟨"java/lang/String", "length", "()I"⟩ : MethodName) jdk_42_method_54_code 1 (some .int) ws ({ frames := 1, cells := 0, slots := 0, locals := 13 } : Room) #[(.ref a1)] Z h0 (Q31_1 Z  h0 n0) := by
  refine MetFree.of_bodySF (plainFor_of_name pn_1) hisR ?_
  intro p e s m args below meth c s₁ Bd hml0 hP hK
  obtain ⟨rfl, hZ, hh⟩ := hP
  have hx := Bd.exec
  have hby := Bd.bytes
  have hml : c.maxLocals = 1 := hml0
  have hown : s.vm.findClass "java/lang/String" = some m.cls := findClass_of_methodNamed Bd.named
  have hnm := (name_of_methodNamed Bd.named Bd.method).1
  have X0 : Stand p l e ({ frames := 1, cells := 0, slots := 0, locals := 13 } : Room) s m #[(.ref a1)] below meth c s₁ [] 0 0 := Stand.of_body Bd
  have e0 : s₁.heap = h0 := by rw [← hh, Bd.state]; rfl
  have N0 := Fr.nil n0
  refine Goes.via (next := s₁.setTop (mkF m 0 #[.val (.ref a1)] [])) (fun t k => castTop (ef_31_1 m a1) k) ?_
  refine Goes.via (next := s₁.setTop (mkF m 1 #[sr a1] [(.ref a1)])) (fun t k => XS.aloadN X0.here hx rfl (hb hby d31_0) rfl rfl k) ?_
  obtain ⟨T1, X1, e1, st1⟩ := getF X0 hx hZ hown (host := "") (Or.inl (Wd hw 32 rfl)) Via.refl e0 Fv (g := (mkF m 1 #[sr a1] [(.ref a1)])) rfl rfl (hb hby d31_1)
  refine Goes.via (next := T1.setTop (mkF m 4 #[sr a1] [(.ref t1)])) st1 ?_
  obtain ⟨cl2, Ar2, -, Sa2, Na2, -, -⟩ := id V1
  refine Goes.via (next := T1.setTop (mkF m 5 #[sr a1] [(.int (1 : Int32))])) (fun t k => X1.arraylength hx (by rw [e1]; exact Ar2.1) (State.isArrayOf_alike hZ.alike Ar2.2.1) (g := (mkF m 4 #[sr a1] [(.ref t1)])) rfl rfl (hb hby d31_4) _ (by rw [len_of Sa2 Na2]; exact k)) ?_
  refine Goes.via (next := T1.setTop (mkF m 6 #[sr a1] [(.ref a1), (.int (1 : Int32))])) (fun t k => XS.aloadN X1.here hx rfl (hb hby d31_5) rfl rfl k) ?_
  obtain ⟨cq3, kq3, q3a, q3b, q3c⟩ := isOf hZ e1 E1
  obtain ⟨_, _, ⟨T3, L3, k3, n3⟩, -, X3, ⟨Lc3, hQ3, l3, y3, z3⟩, st3⟩ := X1.virtualBack hx (y := (⟨"java/lang/String", "coder", "()B"⟩ : MethodName)) (z := (⟨"java/lang/String", "coder", "()B"⟩ : MethodName)) hown (mvT hZ (Wd hw 193 rfl)) (mvT hZ (Wd hw 194 rfl)) (notFace_of_selects (args := #[]) (mvT hZ (Wd hw 196 rfl))) (mvT hZ (Wd hw 196 rfl)) (mvT hZ (Wd hw 195 rfl)) (by decide) (backOf (W := 1) (rm32 l Z a0 hw [] a1 w0 rE rL eL kL nZ h0 n0 Z0 Fc O0 hz St) hZ (Wd hw 197 rfl) (Wd hw 6 rfl) (by decide) (by decide)) q3a q3c (g := (mkF m 6 #[sr a1] [(.ref a1), (.int (1 : Int32))])) rfl (by rw [hml]; rfl) (Steps.refl _) (argsL := []) (rest := [(.int (1 : Int32))]) (lenOf pd_12 rfl) rfl (by show 2 * 0 + _ ≤ _; exact Nat.le_of_eq rfl) (hb hby d31_6) (fun _ _ => ⟨rfl, e1, (by decide : 0 + 0 ≤ _), (by decide : 0 + 0 ≤ _)⟩)
  dsimp only [Pt.U, Pt.locs, Pt.cells, Pt.slots] at X3 l3 y3 z3 st3 hQ3
  subst l3 y3 z3
  obtain ⟨rfl, N3q, er3⟩ := hQ3
  have e3 : T3.heap = h0 := er3
  have N3 := Fr.app N0 N3q
  refine Goes.via (next := T3.setTop (mkF m 9 #[sr a1] [(.int (0 : Int32)), (.int (1 : Int32))])) (fun t k => st3.trans k) ?_
  refine Goes.via (next := T3.setTop (mkF m 10 #[sr a1] [(.int (1 : Int32))])) (fun t k => XS.ishr X3.here hx rfl (hb hby d31_9) rfl k) ?_
  obtain ⟨fs, hr, hrun, hended, hW, hsame⟩ := X3.leave (v := some (.int (1 : Int32))) (fun h => by rw [Bd.returns] at h; cases h)
  refine ⟨_, _, ?_, hrun, hended, _, _, rfl, ?_, ⟨_, rfl⟩, hW, hsame.mono (by decide) (by decide)⟩
  · exact retI X3 hx Bd.returns (hb hby d31_10) hr
  · show Q31_1 Z  h0 n0 _ T3.heap _
    rw [e3]
    exact ⟨rfl, N3, rfl⟩
theorem ef_31_2 (m : MethodId) (x0 : Addr) : entryFrame m #[(.ref x0)] 1 = mkF m 0 #[.val (.ref x0)] [] := by first | (simp [entryFrame, mkF, argsToLocals, Value.category]; done) | rfl
def Q31_2 (Z : State) (h0 : Heap) (n0 : Nat) (v : Option Value) (h : Heap) (L : List Loc) : Prop := v = some (.int (2 : Int32)) ∧ Fr n0 L ∧ h = h0
set_option maxRecDepth 65536 in
set_option maxHeartbeats 40000000 in
theorem rm31_2 (l : Launch) (Z : State) (a0 : Array Value) (hw : ∀ d ∈ tables_1, d.before a0 Z = true) (ws : List Jvm.Cond) (a1 : Addr) (t1 : Addr) (k1 : ClassId) (vs : List Value) (w0 : Int32) (rE rL eL : Addr) (kL : ClassId) (nZ : Nat) (h0 : Heap) (n0 : Nat) (Z0 : n0 ≤ h0.size) (E1 : Exa Z h0 a1 "java/lang/String") (Fv : Fld Z h0 a1 "java/lang/String" "value" "[B" (.ref t1)) (Fc : Fld Z h0 a1 "java/lang/String" "coder" "B" (.int (0 : Int32))) (V1 : Arv Z h0 t1 k1 .byte (2 : Int32) vs (.int (0 : Int32))) (O0 : Old Z nZ h0) (hz : nZ ≤ n0) (St : own_St Z w0 rE rL eL kL) :
    MF l (⟨"java/lang/String", "length", "()I"⟩ : MethodName) jdk_42_method_54_code 1 (some .int) ws ({ frames := 1, cells := 0, slots := 0, locals := 13 } : Room) #[(.ref a1)] Z h0 (Q31_2 Z  h0 n0) := by
  refine MetFree.of_bodySF (plainFor_of_name pn_1) hisR ?_
  intro p e s m args below meth c s₁ Bd hml0 hP hK
  obtain ⟨rfl, hZ, hh⟩ := hP
  have hx := Bd.exec
  have hby := Bd.bytes
  have hml : c.maxLocals = 1 := hml0
  have hown : s.vm.findClass "java/lang/String" = some m.cls := findClass_of_methodNamed Bd.named
  have hnm := (name_of_methodNamed Bd.named Bd.method).1
  have X0 : Stand p l e ({ frames := 1, cells := 0, slots := 0, locals := 13 } : Room) s m #[(.ref a1)] below meth c s₁ [] 0 0 := Stand.of_body Bd
  have e0 : s₁.heap = h0 := by rw [← hh, Bd.state]; rfl
  have N0 := Fr.nil n0
  refine Goes.via (next := s₁.setTop (mkF m 0 #[.val (.ref a1)] [])) (fun t k => castTop (ef_31_2 m a1) k) ?_
  refine Goes.via (next := s₁.setTop (mkF m 1 #[sr a1] [(.ref a1)])) (fun t k => XS.aloadN X0.here hx rfl (hb hby d31_0) rfl rfl k) ?_
  obtain ⟨T1, X1, e1, st1⟩ := getF X0 hx hZ hown (host := "") (Or.inl (Wd hw 32 rfl)) Via.refl e0 Fv (g := (mkF m 1 #[sr a1] [(.ref a1)])) rfl rfl (hb hby d31_1)
  refine Goes.via (next := T1.setTop (mkF m 4 #[sr a1] [(.ref t1)])) st1 ?_
  obtain ⟨cl2, Ar2, -, Sa2, Na2, -, -⟩ := id V1
  refine Goes.via (next := T1.setTop (mkF m 5 #[sr a1] [(.int (2 : Int32))])) (fun t k => X1.arraylength hx (by rw [e1]; exact Ar2.1) (State.isArrayOf_alike hZ.alike Ar2.2.1) (g := (mkF m 4 #[sr a1] [(.ref t1)])) rfl rfl (hb hby d31_4) _ (by rw [len_of Sa2 Na2]; exact k)) ?_
  refine Goes.via (next := T1.setTop (mkF m 6 #[sr a1] [(.ref a1), (.int (2 : Int32))])) (fun t k => XS.aloadN X1.here hx rfl (hb hby d31_5) rfl rfl k) ?_
  obtain ⟨cq3, kq3, q3a, q3b, q3c⟩ := isOf hZ e1 E1
  obtain ⟨_, _, ⟨T3, L3, k3, n3⟩, -, X3, ⟨Lc3, hQ3, l3, y3, z3⟩, st3⟩ := X1.virtualBack hx (y := (⟨"java/lang/String", "coder", "()B"⟩ : MethodName)) (z := (⟨"java/lang/String", "coder", "()B"⟩ : MethodName)) hown (mvT hZ (Wd hw 193 rfl)) (mvT hZ (Wd hw 194 rfl)) (notFace_of_selects (args := #[]) (mvT hZ (Wd hw 196 rfl))) (mvT hZ (Wd hw 196 rfl)) (mvT hZ (Wd hw 195 rfl)) (by decide) (backOf (W := 1) (rm32 l Z a0 hw [] a1 w0 rE rL eL kL nZ h0 n0 Z0 Fc O0 hz St) hZ (Wd hw 197 rfl) (Wd hw 6 rfl) (by decide) (by decide)) q3a q3c (g := (mkF m 6 #[sr a1] [(.ref a1), (.int (2 : Int32))])) rfl (by rw [hml]; rfl) (Steps.refl _) (argsL := []) (rest := [(.int (2 : Int32))]) (lenOf pd_12 rfl) rfl (by show 2 * 0 + _ ≤ _; exact Nat.le_of_eq rfl) (hb hby d31_6) (fun _ _ => ⟨rfl, e1, (by decide : 0 + 0 ≤ _), (by decide : 0 + 0 ≤ _)⟩)
  dsimp only [Pt.U, Pt.locs, Pt.cells, Pt.slots] at X3 l3 y3 z3 st3 hQ3
  subst l3 y3 z3
  obtain ⟨rfl, N3q, er3⟩ := hQ3
  have e3 : T3.heap = h0 := er3
  have N3 := Fr.app N0 N3q
  refine Goes.via (next := T3.setTop (mkF m 9 #[sr a1] [(.int (0 : Int32)), (.int (2 : Int32))])) (fun t k => st3.trans k) ?_
  refine Goes.via (next := T3.setTop (mkF m 10 #[sr a1] [(.int (2 : Int32))])) (fun t k => XS.ishr X3.here hx rfl (hb hby d31_9) rfl k) ?_
  obtain ⟨fs, hr, hrun, hended, hW, hsame⟩ := X3.leave (v := some (.int (2 : Int32))) (fun h => by rw [Bd.returns] at h; cases h)
  refine ⟨_, _, ?_, hrun, hended, _, _, rfl, ?_, ⟨_, rfl⟩, hW, hsame.mono (by decide) (by decide)⟩
  · exact retI X3 hx Bd.returns (hb hby d31_10) hr
  · show Q31_2 Z  h0 n0 _ T3.heap _
    rw [e3]
    exact ⟨rfl, N3, rfl⟩
theorem d28_0 : decode jdk_68_method_2_code 0 = .ok (.aload_n 0, 1) := by decide +kernel
theorem d28_1 : decode jdk_68_method_2_code 1 = .ok (.invokespecial 3, 3) := by decide +kernel
theorem d28_4 : decode jdk_68_method_2_code 4 = .ok (.getstatic 18, 3) := by decide +kernel
theorem d28_7 : decode jdk_68_method_2_code 7 = .ok (.ifCond .eq 18, 3) := by decide +kernel
theorem d28_10 : decode jdk_68_method_2_code 10 = .ok (.aload_n 0, 1) := by decide +kernel
theorem d28_11 : decode jdk_68_method_2_code 11 = .ok (.iload_n 1, 1) := by decide +kernel
theorem d28_12 : decode jdk_68_method_2_code 12 = .ok (.newarray .byte, 2) := by decide +kernel
theorem d28_14 : decode jdk_68_method_2_code 14 = .ok (.putfield 15, 3) := by decide +kernel
theorem d28_17 : decode jdk_68_method_2_code 17 = .ok (.aload_n 0, 1) := by decide +kernel
theorem d28_18 : decode jdk_68_method_2_code 18 = .ok (.iconst 0, 1) := by decide +kernel
theorem d28_19 : decode jdk_68_method_2_code 19 = .ok (.putfield 22, 3) := by decide +kernel
theorem d28_22 : decode jdk_68_method_2_code 22 = .ok (.goto 16, 3) := by decide +kernel
theorem d28_38 : decode jdk_68_method_2_code 38 = .ok (.return_, 1) := by decide +kernel
theorem pn_13 : plainName "java/lang/AbstractStringBuilder" = true := by first | (simp [plainName, overriddenIn]; done) | decide +kernel
theorem ef_28 (m : MethodId) (x0 : Addr) : entryFrame m #[(.ref x0), (.int (16 : Int32))] 2 = mkF m 0 #[.val (.ref x0), .val (.int (16 : Int32))] [] := by first | (simp [entryFrame, mkF, argsToLocals, Value.category]; done) | rfl
def Q28 (Z : State) (a1 : Addr) (h0 : Heap) (n0 : Nat) (v : Option Value) (h : Heap) (L : List Loc) : Prop := v = none ∧ Fr n0 L ∧ Keep h0 h [a1] ∧ Exa Z h a1 "java/lang/StringBuilder" ∧ Fld Z h a1 "java/lang/AbstractStringBuilder" "coder" "B" (.int (0 : Int32)) ∧ Fld Z h a1 "java/lang/AbstractStringBuilder" "count" "I" (.int (0 : Int32)) ∧ ∃ (t : Addr) (k : ClassId), n0 ≤ t ∧ h0.size ≤ t ∧ Fld Z h a1 "java/lang/AbstractStringBuilder" "value" "[B" (.ref t) ∧ Arv Z h t k .byte (16 : Int32) [(.int (0 : Int32)), (.int (0 : Int32)), (.int (0 : Int32)), (.int (0 : Int32)), (.int (0 : Int32)), (.int (0 : Int32)), (.int (0 : Int32)), (.int (0 : Int32)), (.int (0 : Int32)), (.int (0 : Int32)), (.int (0 : Int32)), (.int (0 : Int32)), (.int (0 : Int32)), (.int (0 : Int32)), (.int (0 : Int32)), (.int (0 : Int32))] (.int (0 : Int32))
set_option maxRecDepth 65536 in
set_option maxHeartbeats 40000000 in
theorem rm28 (l : Launch) (Z : State) (a0 : Array Value) (hw : ∀ d ∈ tables_1, d.before a0 Z = true) (ws : List Jvm.Cond) (a1 : Addr) (w0 : Int32) (rE rL eL : Addr) (kL : ClassId) (nZ : Nat) (h0 : Heap) (n0 : Nat) (Z0 : n0 ≤ h0.size) (Eb : Exa Z h0 a1 "java/lang/StringBuilder") (Fb : Fld Z h0 a1 "java/lang/AbstractStringBuilder" "value" "[B" .null) (Cb : Fld Z h0 a1 "java/lang/AbstractStringBuilder" "coder" "B" (.int (0 : Int32))) (Nb : Fld Z h0 a1 "java/lang/AbstractStringBuilder" "count" "I" (.int (0 : Int32))) (g1 : n0 ≤ a1) (O0 : Old Z nZ h0) (hz : nZ ≤ n0) (St : own_St Z w0 rE rL eL kL) :
    MF l (⟨"java/lang/AbstractStringBuilder", "<init>", "(I)V"⟩ : MethodName) jdk_68_method_2_code 2 none ws ({ frames := 1, cells := 1, slots := 16, locals := 12 } : Room) #[(.ref a1), (.int (16 : Int32))] Z h0 (Q28 Z a1 h0 n0) := by
  refine MetFree.of_bodySF (plainFor_of_name pn_13) hisR ?_
  intro p e s m args below meth c s₁ Bd hml0 hP hK
  obtain ⟨rfl, hZ, hh⟩ := hP
  have hx := Bd.exec
  have hby := Bd.bytes
  have hml : c.maxLocals = 2 := hml0
  have hown : s.vm.findClass "java/lang/AbstractStringBuilder" = some m.cls := findClass_of_methodNamed Bd.named
  have hnm := (name_of_methodNamed Bd.named Bd.method).1
  have X0 : Stand p l e ({ frames := 1, cells := 1, slots := 16, locals := 12 } : Room) s m #[(.ref a1), (.int (16 : Int32))] below meth c s₁ [] 0 0 := Stand.of_body Bd
  have e0 : s₁.heap = h0 := by rw [← hh, Bd.state]; rfl
  have N0 := Fr.nil n0
  refine Goes.via (next := s₁.setTop (mkF m 0 #[.val (.ref a1), .val (.int (16 : Int32))] [])) (fun t k => castTop (ef_28 m a1) k) ?_
  refine Goes.via (next := s₁.setTop (mkF m 1 #[sr a1, si (16 : Int32)] [(.ref a1)])) (fun t k => XS.aloadN X0.here hx rfl (hb hby d28_0) rfl rfl k) ?_
  obtain ⟨T1, X1, e1, st1⟩ := initO X0 hx hZ hown (Wd hw 171 rfl) (Wd hw 16 rfl) (Wd hw 17 rfl) e0 (g := (mkF m 1 #[sr a1, si (16 : Int32)] [(.ref a1)])) rfl (by rw [hml]; rfl) rfl (hb hby d28_1) (by decide) (W := 0) (by show 2 * 0 + _ ≤ _; exact Nat.le_of_eq rfl) (by decide)
  refine Goes.via (next := T1.setTop (mkF m 4 #[sr a1, si (16 : Int32)] [])) st1 ?_
  obtain ⟨T2, X2, e2, st2⟩ := getS2 X1 hx hZ hown (host := "") (Or.inl (Wd hw 172 rfl)) Via.refl e1 (St.1.ext O0.2) (g := (mkF m 4 #[sr a1, si (16 : Int32)] [])) rfl (hb hby d28_4)
  refine Goes.via (next := T2.setTop (mkF m 7 #[sr a1, si (16 : Int32)] [(.int w0)])) st2 ?_
  have hc7_3 : ¬ (w0 = (0 : Int32)) := St.2.1
  refine Goes.via (next := T2.setTop (mkF m 10 #[sr a1, si (16 : Int32)] [])) (fun t k => XS.ifNo X2.here hx rfl (hb hby d28_7) rfl ((if0 _ _).trans (feq hc7_3).1) k) ?_
  refine Goes.via (next := T2.setTop (mkF m 12 #[sr a1, si (16 : Int32)] [(.int (16 : Int32)), (.ref a1)])) (fun t k => XS.aloadN X2.here hx rfl (hb hby d28_10) rfl rfl (XS.iloadN X2.here hx rfl (hb hby d28_11) rfl k)) ?_
  obtain ⟨T4, h4, ka4, X4, e4, E4, A4, st4⟩ := newP X2 hx hZ (Wd hw 23 rfl) e2 (g := (mkF m 12 #[sr a1, si (16 : Int32)] [(.int (16 : Int32)), (.ref a1)])) rfl (hb hby d28_12) rfl (by decide) (cap := 16) (by decide) (by decide) (by decide) (by decide)
  obtain ⟨b4, g4⟩ : ∃ z, z = h0.size := ⟨_, rfl⟩
  rw [← g4] at A4 st4
  have lt_a1_b4 : a1 < b4 := Nat.lt_of_lt_of_le Eb.lt (Nat.le_of_eq g4.symm)
  have ge_b4 : n0 ≤ b4 := Nat.le_trans Z0 (Nat.le_of_eq g4.symm)
  have sz_b4 : h0.size ≤ b4 := Nat.le_trans (Keep.refl h0 [a1]).1 (Nat.le_of_eq g4.symm)
  have F4_14 := Eb.ext E4
  have F4_15 := Fb.ext E4
  have F4_16 := Cb.ext E4
  have F4_17 := Nb.ext E4
  have K4 : Keep h0 h4 [a1] := (Keep.refl h0 [a1]).ext E4
  have Z4 : n0 ≤ h4.size := Nat.le_trans Z0 E4.1
  have O4 := O0.ext E4
  have V4 : Arv Z h4 b4 ka4 .byte (16 : Int32) [(.int (0 : Int32)), (.int (0 : Int32)), (.int (0 : Int32)), (.int (0 : Int32)), (.int (0 : Int32)), (.int (0 : Int32)), (.int (0 : Int32)), (.int (0 : Int32)), (.int (0 : Int32)), (.int (0 : Int32)), (.int (0 : Int32)), (.int (0 : Int32)), (.int (0 : Int32)), (.int (0 : Int32)), (.int (0 : Int32)), (.int (0 : Int32))] (.int (0 : Int32)) := (Arv.new A4 (by decide)).pad (pad_rep [] (.int (0 : Int32)) 16)
  refine Goes.via (next := T4.setTop (mkF m 14 #[sr a1, si (16 : Int32)] [(.ref b4), (.ref a1)])) st4 ?_
  obtain ⟨T5, h5, X5, e5, W5, st5⟩ := putF X4 hx hZ hown (host := "") (Or.inl (Wd hw 173 rfl)) Via.refl e4 F4_15 F4_14 (Or.inl (Wd hw 174 rfl)) (Wd hw 160 rfl) (ty := (.array .byte)) (by decide) rfl rfl (g := (mkF m 14 #[sr a1, si (16 : Int32)] [(.ref b4), (.ref a1)])) rfl rfl (hb hby d28_14)
  have Fw5 := F4_15.same W5
  have F5_25 := F4_14.wr W5
  have F5_26 := F4_16.other W5 (Or.inr (slot_ne (Or.inl (Wd hw 176 rfl)) (Or.inl (Wd hw 174 rfl)) (by decide) (t := .byte) (t' := (.array .byte)) (by decide) (by decide)))
  have F5_27 := F4_17.other W5 (Or.inr (slot_ne (Or.inl (Wd hw 199 rfl)) (Or.inl (Wd hw 174 rfl)) (by decide) (t := .int) (t' := (.array .byte)) (by decide) (by decide)))
  have F5_28 := V4.other W5 (Nat.ne_of_gt lt_a1_b4)
  have K5 : Keep h0 h5 [a1] := K4.wr W5 (Or.inl (List.mem_of_getElem? (i := 0) rfl))
  have Z5 : n0 ≤ h5.size := Nat.le_trans Z4 (Keep.of_wr W5).1
  have N5 := Fr.snoc X5 N0 g1
  have O5 := O4.wr W5 (Nat.le_trans hz g1)
  refine Goes.via (next := T5.setTop (mkF m 17 #[sr a1, si (16 : Int32)] [])) st5 ?_
  refine Goes.via (next := T5.setTop (mkF m 19 #[sr a1, si (16 : Int32)] [(.int (0 : Int32)), (.ref a1)])) (fun t k => XS.aloadN X5.here hx rfl (hb hby d28_17) rfl rfl (XS.iconst X5.here hx rfl (hb hby d28_18) k)) ?_
  obtain ⟨T6, h6, X6, e6, W6, st6⟩ := putFN X5 hx hZ hown (Wd hw 175 rfl) Via.refl e5 F5_26 F5_25 (Or.inl (Wd hw 176 rfl)) (Wd hw 160 rfl) (ty := .byte) (v' := (.int (0 : Int32))) (by decide) rfl (by decide) (g := (mkF m 19 #[sr a1, si (16 : Int32)] [(.int (0 : Int32)), (.ref a1)])) rfl rfl (hb hby d28_19)
  have Fw6 := F5_26.same W6
  have F6_37 := F5_25.wr W6
  have F6_38 := F5_27.other W6 (Or.inr (slot_ne (Or.inl (Wd hw 199 rfl)) (Or.inl (Wd hw 176 rfl)) (by decide) (t := .int) (t' := .byte) (by decide) (by decide)))
  have F6_39 := F5_28.other W6 (Nat.ne_of_gt lt_a1_b4)
  have F6_40 := Fw5.other W6 (Or.inr (slot_ne (Or.inl (Wd hw 174 rfl)) (Or.inl (Wd hw 176 rfl)) (by decide) (t := (.array .byte)) (t' := .byte) (by decide) (by decide)))
  have K6 : Keep h0 h6 [a1] := K5.wr W6 (Or.inl (List.mem_of_getElem? (i := 0) rfl))
  have Z6 : n0 ≤ h6.size := Nat.le_trans Z5 (Keep.of_wr W6).1
  have N6 := Fr.snoc X6 N5 g1
  have O6 := O5.wr W6 (Nat.le_trans hz g1)
  refine Goes.via (next := T6.setTop (mkF m 22 #[sr a1, si (16 : Int32)] [])) st6 ?_
  refine Goes.via (next := T6.setTop (mkF m 38 #[sr a1, si (16 : Int32)] [])) (fun t k => XS.goto X6.here hx rfl (pc0 := 22) (pc' := 38) rfl (hb hby d28_22) (by decide) (by decide) k) ?_
  obtain ⟨fs, hr, hrun, hended, hW, hsame⟩ := X6.leave (v := none) (fun _ => rfl)
  refine ⟨_, _, ?_, hrun, hended, _, _, rfl, ?_, ⟨_, rfl⟩, hW, hsame.mono (by decide) (by decide)⟩
  · exact X6.returnOut hx Bd.returns (hb hby d28_38) hr
  · show Q28 Z a1 h0 n0 _ T6.heap _
    rw [e6]
    exact ⟨rfl, N6, K6, F6_37, Fw6, F6_38, b4, _, ge_b4, sz_b4, F6_40, F6_39⟩
theorem d27_0 : decode jdk_67_method_1_code 0 = .ok (.aload_n 0, 1) := by decide +kernel
theorem d27_1 : decode jdk_67_method_1_code 1 = .ok (.bipush 16, 2) := by decide +kernel
theorem d27_3 : decode jdk_67_method_1_code 3 = .ok (.invokespecial 1, 3) := by decide +kernel
theorem d27_6 : decode jdk_67_method_1_code 6 = .ok (.return_, 1) := by decide +kernel
theorem pn_14 : plainName "java/lang/StringBuilder" = true := by first | (simp [plainName, overriddenIn]; done) | decide +kernel
theorem pd_13 : parseMethodDescriptor "(I)V" = some ⟨[.int], none⟩ := by decide +kernel
theorem ef_27 (m : MethodId) (x0 : Addr) : entryFrame m #[(.ref x0)] 1 = mkF m 0 #[.val (.ref x0)] [] := by first | (simp [entryFrame, mkF, argsToLocals, Value.category]; done) | rfl
def Q27 (Z : State) (a1 : Addr) (h0 : Heap) (n0 : Nat) (v : Option Value) (h : Heap) (L : List Loc) : Prop := v = none ∧ Fr n0 L ∧ Keep h0 h [a1] ∧ Exa Z h a1 "java/lang/StringBuilder" ∧ Fld Z h a1 "java/lang/AbstractStringBuilder" "coder" "B" (.int (0 : Int32)) ∧ Fld Z h a1 "java/lang/AbstractStringBuilder" "count" "I" (.int (0 : Int32)) ∧ ∃ (t : Addr) (k : ClassId), n0 ≤ t ∧ h0.size ≤ t ∧ Fld Z h a1 "java/lang/AbstractStringBuilder" "value" "[B" (.ref t) ∧ Arv Z h t k .byte (16 : Int32) [(.int (0 : Int32)), (.int (0 : Int32)), (.int (0 : Int32)), (.int (0 : Int32)), (.int (0 : Int32)), (.int (0 : Int32)), (.int (0 : Int32)), (.int (0 : Int32)), (.int (0 : Int32)), (.int (0 : Int32)), (.int (0 : Int32)), (.int (0 : Int32)), (.int (0 : Int32)), (.int (0 : Int32)), (.int (0 : Int32)), (.int (0 : Int32))] (.int (0 : Int32))
set_option maxRecDepth 65536 in
set_option maxHeartbeats 40000000 in
theorem rm27 (l : Launch) (Z : State) (a0 : Array Value) (hw : ∀ d ∈ tables_1, d.before a0 Z = true) (ws : List Jvm.Cond) (a1 : Addr) (w0 : Int32) (rE rL eL : Addr) (kL : ClassId) (nZ : Nat) (h0 : Heap) (n0 : Nat) (Z0 : n0 ≤ h0.size) (Eb : Exa Z h0 a1 "java/lang/StringBuilder") (Fb : Fld Z h0 a1 "java/lang/AbstractStringBuilder" "value" "[B" .null) (Cb : Fld Z h0 a1 "java/lang/AbstractStringBuilder" "coder" "B" (.int (0 : Int32))) (Nb : Fld Z h0 a1 "java/lang/AbstractStringBuilder" "count" "I" (.int (0 : Int32))) (g1 : n0 ≤ a1) (O0 : Old Z nZ h0) (hz : nZ ≤ n0) (St : own_St Z w0 rE rL eL kL) :
    MF l (⟨"java/lang/StringBuilder", "<init>", "()V"⟩ : MethodName) jdk_67_method_1_code 1 none ws ({ frames := 2, cells := 1, slots := 16, locals := 25 } : Room) #[(.ref a1)] Z h0 (Q27 Z a1 h0 n0) := by
  refine MetFree.of_bodySF (plainFor_of_name pn_14) hisR ?_
  intro p e s m args below meth c s₁ Bd hml0 hP hK
  obtain ⟨rfl, hZ, hh⟩ := hP
  have hx := Bd.exec
  have hby := Bd.bytes
  have hml : c.maxLocals = 1 := hml0
  have hown : s.vm.findClass "java/lang/StringBuilder" = some m.cls := findClass_of_methodNamed Bd.named
  have hnm := (name_of_methodNamed Bd.named Bd.method).1
  have X0 : Stand p l e ({ frames := 2, cells := 1, slots := 16, locals := 25 } : Room) s m #[(.ref a1)] below meth c s₁ [] 0 0 := Stand.of_body Bd
  have e0 : s₁.heap = h0 := by rw [← hh, Bd.state]; rfl
  have N0 := Fr.nil n0
  refine Goes.via (next := s₁.setTop (mkF m 0 #[.val (.ref a1)] [])) (fun t k => castTop (ef_27 m a1) k) ?_
  refine Goes.via (next := s₁.setTop (mkF m 3 #[sr a1] [(.int (16 : Int32)), (.ref a1)])) (fun t k => XS.aloadN X0.here hx rfl (hb hby d27_0) rfl rfl (XS.bipush X0.here hx rfl (hb hby d27_1) k)) ?_
  obtain ⟨_, _, ⟨T1, L1, k1, n1⟩, -, X1, ⟨Lc1, hQ1, l1, y1, z1⟩, st1⟩ := X0.specialBack hx (y := (⟨"java/lang/AbstractStringBuilder", "<init>", "(I)V"⟩ : MethodName)) rfl hown (mvT hZ (Wd hw 165 rfl)) (mvT hZ (Wd hw 166 rfl)) (mvT hZ (Wd hw 170 rfl)) (by decide) (backOf (W := 0) (rm28 l Z a0 hw [] a1 w0 rE rL eL kL nZ h0 n0 Z0 Eb Fb Cb Nb g1 O0 hz St) hZ (Wd hw 170 rfl) (Wd hw 169 rfl) (by decide) (by decide)) (g := (mkF m 3 #[sr a1] [(.int (16 : Int32)), (.ref a1)])) rfl (by rw [hml]; rfl) (Steps.refl _) (a := a1) (argsL := [(.int (16 : Int32))]) (rest := []) (lenOf pd_13 rfl) rfl (by show 2 * 0 + _ ≤ _; exact Nat.le_of_eq rfl) (hb hby d27_3) (fun _ _ => ⟨rfl, e0, (by decide : 0 + 1 ≤ _), (by decide : 0 + 16 ≤ _)⟩)
  dsimp only [Pt.U, Pt.locs, Pt.cells, Pt.slots] at X1 l1 y1 z1 st1 hQ1
  subst l1 y1 z1
  obtain ⟨rfl, N1q, Kc1, Ec1, Cc1, Nc1, t1, kt1, gt1, zt1, Vq1, Vc1⟩ := hQ1
  have lt_a1_t1 : a1 < t1 := Nat.lt_of_lt_of_le Eb.lt zt1
  have sz_t1 : h0.size ≤ t1 := Nat.le_trans (Keep.refl h0 [a1]).1 zt1
  have F1_7 := Eb.keep Kc1
  have K1 : Keep h0 T1.heap [a1] := (Keep.refl h0 [a1]).trans Kc1 (fun x hx => by cases List.mem_singleton.mp hx; exact Or.inl (List.mem_of_getElem? (i := 0) rfl))
  have Z1 : n0 ≤ T1.heap.size := Nat.le_trans Z0 Kc1.1
  have O1 := O0.keep Kc1 (fun x hx => by cases List.mem_singleton.mp hx; exact (Nat.le_trans hz g1))
  have N1 := Fr.app N0 N1q
  refine Goes.via (next := T1.setTop (mkF m 6 #[sr a1] [])) (fun t k => st1.trans k) ?_
  obtain ⟨fs, hr, hrun, hended, hW, hsame⟩ := X1.leave (v := none) (fun _ => rfl)
  refine ⟨_, _, ?_, hrun, hended, _, _, rfl, ?_, ⟨_, rfl⟩, hW, hsame.mono (by decide) (by decide)⟩
  · exact X1.returnOut hx Bd.returns (hb hby d27_6) hr
  · show Q27 Z a1 h0 n0 _ T1.heap _
    exact ⟨rfl, N1, K1, F1_7, Cc1, Nc1, t1, _, gt1, sz_t1, Vq1, Vc1⟩
theorem d35_0 : decode jdk_68_method_71_code 0 = .ok (.getstatic 18, 3) := by decide +kernel
theorem d35_3 : decode jdk_68_method_71_code 3 = .ok (.ifCond .eq 18, 3) := by decide +kernel
theorem d35_6 : decode jdk_68_method_71_code 6 = .ok (.aload_n 0, 1) := by decide +kernel
theorem d35_7 : decode jdk_68_method_71_code 7 = .ok (.getfield 22, 3) := by decide +kernel
theorem d35_10 : decode jdk_68_method_71_code 10 = .ok (.aload_n 1, 1) := by decide +kernel
theorem d35_11 : decode jdk_68_method_71_code 11 = .ok (.invokevirtual 40, 3) := by decide +kernel
theorem d35_14 : decode jdk_68_method_71_code 14 = .ok (.if_icmp .eq 7, 3) := by decide +kernel
theorem d35_21 : decode jdk_68_method_71_code 21 = .ok (.return_, 1) := by decide +kernel
theorem ef_35 (m : MethodId) (x0 : Addr) (x1 : Addr) : entryFrame m #[(.ref x0), (.ref x1)] 2 = mkF m 0 #[.val (.ref x0), .val (.ref x1)] [] := by first | (simp [entryFrame, mkF, argsToLocals, Value.category]; done) | rfl
def Q35 (Z : State) (h0 : Heap) (n0 : Nat) (v : Option Value) (h : Heap) (L : List Loc) : Prop := v = none ∧ Fr n0 L ∧ h = h0
set_option maxRecDepth 65536 in
set_option maxHeartbeats 40000000 in
theorem rm35 (l : Launch) (Z : State) (a0 : Array Value) (hw : ∀ d ∈ tables_1, d.before a0 Z = true) (ws : List Jvm.Cond) (a1 : Addr) (a2 : Addr) (w0 : Int32) (rE rL eL : Addr) (kL : ClassId) (nZ : Nat) (h0 : Heap) (n0 : Nat) (Z0 : n0 ≤ h0.size) (Cb : Fld Z h0 a1 "java/lang/AbstractStringBuilder" "coder" "B" (.int (0 : Int32))) (Es : Exa Z h0 a2 "java/lang/String") (Cs : Fld Z h0 a2 "java/lang/String" "coder" "B" (.int (0 : Int32))) (O0 : Old Z nZ h0) (hz : nZ ≤ n0) (St : own_St Z w0 rE rL eL kL) :
    MF l (⟨"java/lang/AbstractStringBuilder", "inflateIfNeededFor", "(Ljava/lang/String;)V"⟩ : MethodName) jdk_68_method_71_code 2 none ws ({ frames := 1, cells := 0, slots := 0, locals := 13 } : Room) #[(.ref a1), (.ref a2)] Z h0 (Q35 Z  h0 n0) := by
  refine MetFree.of_bodySF (plainFor_of_name pn_13) hisR ?_
  intro p e s m args below meth c s₁ Bd hml0 hP hK
  obtain ⟨rfl, hZ, hh⟩ := hP
  have hx := Bd.exec
  have hby := Bd.bytes
  have hml : c.maxLocals = 2 := hml0
  have hown : s.vm.findClass "java/lang/AbstractStringBuilder" = some m.cls := findClass_of_methodNamed Bd.named
  have hnm := (name_of_methodNamed Bd.named Bd.method).1
  have X0 : Stand p l e ({ frames := 1, cells := 0, slots := 0, locals := 13 } : Room) s m #[(.ref a1), (.ref a2)] below meth c s₁ [] 0 0 := Stand.of_body Bd
  have e0 : s₁.heap = h0 := by rw [← hh, Bd.state]; rfl
  have N0 := Fr.nil n0
  refine Goes.via (next := s₁.setTop (mkF m 0 #[.val (.ref a1), .val (.ref a2)] [])) (fun t k => castTop (ef_35 m a1 a2) k) ?_
  obtain ⟨T1, X1, e1, st1⟩ := getS2 X0 hx hZ hown (host := "") (Or.inl (Wd hw 172 rfl)) Via.refl e0 (St.1.ext O0.2) (g := (mkF m 0 #[sr a1, sr a2] [])) rfl (hb hby d35_0)
  refine Goes.via (next := T1.setTop (mkF m 3 #[sr a1, sr a2] [(.int w0)])) st1 ?_
  have hc3_2 : ¬ (w0 = (0 : Int32)) := St.2.1
  refine Goes.via (next := T1.setTop (mkF m 6 #[sr a1, sr a2] [])) (fun t k => XS.ifNo X1.here hx rfl (hb hby d35_3) rfl ((if0 _ _).trans (feq hc3_2).1) k) ?_
  refine Goes.via (next := T1.setTop (mkF m 7 #[sr a1, sr a2] [(.ref a1)])) (fun t k => XS.aloadN X1.here hx rfl (hb hby d35_6) rfl rfl k) ?_
  obtain ⟨T3, X3, e3, st3⟩ := getF X1 hx hZ hown (host := "") (Or.inl (Wd hw 175 rfl)) Via.refl e1 Cb (g := (mkF m 7 #[sr a1, sr a2] [(.ref a1)])) rfl rfl (hb hby d35_7)
  refine Goes.via (next := T3.setTop (mkF m 10 #[sr a1, sr a2] [(.int (0 : Int32))])) st3 ?_
  refine Goes.via (next := T3.setTop (mkF m 11 #[sr a1, sr a2] [(.ref a2), (.int (0 : Int32))])) (fun t k => XS.aloadN X3.here hx rfl (hb hby d35_10) rfl rfl k) ?_
  obtain ⟨cq4, kq4, q4a, q4b, q4c⟩ := isOf hZ e3 Es
  obtain ⟨_, _, ⟨T4, L4, k4, n4⟩, -, X4, ⟨Lc4, hQ4, l4, y4, z4⟩, st4⟩ := X3.virtualBack hx (y := (⟨"java/lang/String", "coder", "()B"⟩ : MethodName)) (z := (⟨"java/lang/String", "coder", "()B"⟩ : MethodName)) hown (mvT hZ (Wd hw 215 rfl)) (mvT hZ (Wd hw 194 rfl)) (notFace_of_selects (args := #[]) (mvT hZ (Wd hw 196 rfl))) (mvT hZ (Wd hw 196 rfl)) (mvT hZ (Wd hw 195 rfl)) (by decide) (backOf (W := 1) (rm32 l Z a0 hw [] a2 w0 rE rL eL kL nZ h0 n0 Z0 Cs O0 hz St) hZ (Wd hw 197 rfl) (Wd hw 6 rfl) (by decide) (by decide)) q4a q4c (g := (mkF m 11 #[sr a1, sr a2] [(.ref a2), (.int (0 : Int32))])) rfl (by rw [hml]; rfl) (Steps.refl _) (argsL := []) (rest := [(.int (0 : Int32))]) (lenOf pd_12 rfl) rfl (by show 2 * 0 + _ ≤ _; exact Nat.le_of_eq rfl) (hb hby d35_11) (fun _ _ => ⟨rfl, e3, (by decide : 0 + 0 ≤ _), (by decide : 0 + 0 ≤ _)⟩)
  dsimp only [Pt.U, Pt.locs, Pt.cells, Pt.slots] at X4 l4 y4 z4 st4 hQ4
  subst l4 y4 z4
  obtain ⟨rfl, N4q, er4⟩ := hQ4
  have e4 : T4.heap = h0 := er4
  have N4 := Fr.app N0 N4q
  refine Goes.via (next := T4.setTop (mkF m 14 #[sr a1, sr a2] [(.int (0 : Int32)), (.int (0 : Int32))])) (fun t k => st4.trans k) ?_
  refine Goes.via (next := T4.setTop (mkF m 21 #[sr a1, sr a2] [])) (fun t k => XS.icmpYes X4.here hx rfl (pc0 := 14) (pc' := 21) rfl (hb hby d35_14) rfl (teq (show (0 : Int32) = (0 : Int32) from rfl)).1 (by decide) (by decide) k) ?_
  obtain ⟨fs, hr, hrun, hended, hW, hsame⟩ := X4.leave (v := none) (fun _ => rfl)
  refine ⟨_, _, ?_, hrun, hended, _, _, rfl, ?_, ⟨_, rfl⟩, hW, hsame.mono (by decide) (by decide)⟩
  · exact X4.returnOut hx Bd.returns (hb hby d35_21) hr
  · show Q35 Z  h0 n0 _ T4.heap _
    rw [e4]
    exact ⟨rfl, N4, rfl⟩
theorem d33_0 : decode jdk_68_method_9_code 0 = .ok (.aload_n 0, 1) := by decide +kernel
theorem d33_1 : decode jdk_68_method_9_code 1 = .ok (.getfield 15, 3) := by decide +kernel
theorem d33_4 : decode jdk_68_method_9_code 4 = .ok (.arraylength, 1) := by decide +kernel
theorem d33_5 : decode jdk_68_method_9_code 5 = .ok (.aload_n 0, 1) := by decide +kernel
theorem d33_6 : decode jdk_68_method_9_code 6 = .ok (.getfield 22, 3) := by decide +kernel
theorem d33_9 : decode jdk_68_method_9_code 9 = .ok (.ishr, 1) := by decide +kernel
theorem d33_10 : decode jdk_68_method_9_code 10 = .ok (.istore_n 2, 1) := by decide +kernel
theorem d33_11 : decode jdk_68_method_9_code 11 = .ok (.iload_n 1, 1) := by decide +kernel
theorem d33_12 : decode jdk_68_method_9_code 12 = .ok (.iload_n 2, 1) := by decide +kernel
theorem d33_13 : decode jdk_68_method_9_code 13 = .ok (.isub, 1) := by decide +kernel
theorem d33_14 : decode jdk_68_method_9_code 14 = .ok (.ifCond .le 24, 3) := by decide +kernel
theorem d33_38 : decode jdk_68_method_9_code 38 = .ok (.return_, 1) := by decide +kernel
theorem ef_33_0 (m : MethodId) (x0 : Addr) : entryFrame m #[(.ref x0), (.int (1 : Int32))] 3 = mkF m 0 #[.val (.ref x0), .val (.int (1 : Int32)), .unset] [] := by first | (simp [entryFrame, mkF, argsToLocals, Value.category]; done) | rfl
def Q33_0 (Z : State) (h0 : Heap) (n0 : Nat) (v : Option Value) (h : Heap) (L : List Loc) : Prop := v = none ∧ Fr n0 L ∧ h = h0
set_option maxRecDepth 65536 in
set_option maxHeartbeats 40000000 in
theorem rm33_0 (l : Launch) (Z : State) (a0 : Array Value) (hw : ∀ d ∈ tables_1, d.before a0 Z = true) (ws : List Jvm.Cond) (a1 : Addr) (tb : Addr) (kb : ClassId) (x0 : Int32) (h0 : Heap) (n0 : Nat) (Z0 : n0 ≤ h0.size) (Fb : Fld Z h0 a1 "java/lang/AbstractStringBuilder" "value" "[B" (.ref tb)) (Cb : Fld Z h0 a1 "java/lang/AbstractStringBuilder" "coder" "B" (.int (0 : Int32))) (Vb : Arv Z h0 tb kb .byte (16 : Int32) [(.int (0 : Int32)), (.int (0 : Int32)), (.int (0 : Int32)), (.int (0 : Int32)), (.int (0 : Int32)), (.int (0 : Int32)), (.int (0 : Int32)), (.int (0 : Int32)), (.int (0 : Int32)), (.int (0 : Int32)), (.int (0 : Int32)), (.int (0 : Int32)), (.int (0 : Int32)), (.int (0 : Int32)), (.int (0 : Int32)), (.int (0 : Int32))] (.int (0 : Int32))) :
    MF l (⟨"java/lang/AbstractStringBuilder", "ensureCapacityInternal", "(I)V"⟩ : MethodName) jdk_68_method_9_code 3 none ws ({ frames := 0, cells := 0, slots := 0, locals := 0 } : Room) #[(.ref a1), (.int (1 : Int32))] Z h0 (Q33_0 Z  h0 n0) := by
  refine MetFree.of_bodySF (plainFor_of_name pn_13) hisR ?_
  intro p e s m args below meth c s₁ Bd hml0 hP hK
  obtain ⟨rfl, hZ, hh⟩ := hP
  have hx := Bd.exec
  have hby := Bd.bytes
  have hml : c.maxLocals = 3 := hml0
  have hown : s.vm.findClass "java/lang/AbstractStringBuilder" = some m.cls := findClass_of_methodNamed Bd.named
  have hnm := (name_of_methodNamed Bd.named Bd.method).1
  have X0 : Stand p l e ({ frames := 0, cells := 0, slots := 0, locals := 0 } : Room) s m #[(.ref a1), (.int (1 : Int32))] below meth c s₁ [] 0 0 := Stand.of_body Bd
  have e0 : s₁.heap = h0 := by rw [← hh, Bd.state]; rfl
  have N0 := Fr.nil n0
  refine Goes.via (next := s₁.setTop (mkF m 0 #[.val (.ref a1), .val (.int (1 : Int32)), .unset] [])) (fun t k => castTop (ef_33_0 m a1) k) ?_
  refine Goes.via (next := s₁.setTop (mkF m 1 #[sr a1, si (1 : Int32), .unset] [(.ref a1)])) (fun t k => XS.aloadN X0.here hx rfl (hb hby d33_0) rfl rfl k) ?_
  obtain ⟨T1, X1, e1, st1⟩ := getF X0 hx hZ hown (host := "") (Or.inl (Wd hw 173 rfl)) Via.refl e0 Fb (g := (mkF m 1 #[sr a1, si (1 : Int32), .unset] [(.ref a1)])) rfl rfl (hb hby d33_1)
  refine Goes.via (next := T1.setTop (mkF m 4 #[sr a1, si (1 : Int32), .unset] [(.ref tb)])) st1 ?_
  obtain ⟨cl2, Ar2, -, Sa2, Na2, -, -⟩ := id Vb
  refine Goes.via (next := T1.setTop (mkF m 5 #[sr a1, si (1 : Int32), .unset] [(.int (16 : Int32))])) (fun t k => X1.arraylength hx (by rw [e1]; exact Ar2.1) (State.isArrayOf_alike hZ.alike Ar2.2.1) (g := (mkF m 4 #[sr a1, si (1 : Int32), .unset] [(.ref tb)])) rfl rfl (hb hby d33_4) _ (by rw [len_of Sa2 Na2]; exact k)) ?_
  refine Goes.via (next := T1.setTop (mkF m 6 #[sr a1, si (1 : Int32), .unset] [(.ref a1), (.int (16 : Int32))])) (fun t k => XS.aloadN X1.here hx rfl (hb hby d33_5) rfl rfl k) ?_
  obtain ⟨T3, X3, e3, st3⟩ := getF X1 hx hZ hown (host := "") (Or.inl (Wd hw 175 rfl)) Via.refl e1 Cb (g := (mkF m 6 #[sr a1, si (1 : Int32), .unset] [(.ref a1), (.int (16 : Int32))])) rfl rfl (hb hby d33_6)
  refine Goes.via (next := T3.setTop (mkF m 9 #[sr a1, si (1 : Int32), .unset] [(.int (0 : Int32)), (.int (16 : Int32))])) st3 ?_
  refine Goes.via (next := T3.setTop (mkF m 38 #[sr a1, si (1 : Int32), si (16 : Int32)] [])) (fun t k => XS.ishr X3.here hx rfl (hb hby d33_9) rfl (XS.istoreN X3.here hx rfl (hb hby d33_10) rfl (l' := #[sr a1, si (1 : Int32), si (16 : Int32)]) rfl (XS.iloadN X3.here hx rfl (hb hby d33_11) rfl (XS.iloadN X3.here hx rfl (hb hby d33_12) rfl (XS.isub X3.here hx rfl (hb hby d33_13) rfl (XS.ifYes X3.here hx rfl (pc0 := 14) (pc' := 38) rfl (hb hby d33_14) rfl ((if0 _ _).trans (flt (show ¬ ((0 : Int32) < (-15 : Int32)) from (by decide))).2.2.2) (by decide) (by decide) k)))))) ?_
  obtain ⟨fs, hr, hrun, hended, hW, hsame⟩ := X3.leave (v := none) (fun _ => rfl)
  refine ⟨_, _, ?_, hrun, hended, _, _, rfl, ?_, ⟨_, rfl⟩, hW, hsame.mono (by decide) (by decide)⟩
  · exact X3.returnOut hx Bd.returns (hb hby d33_38) hr
  · show Q33_0 Z  h0 n0 _ T3.heap _
    rw [e3]
    exact ⟨rfl, N0, rfl⟩
theorem d36_0 : decode jdk_42_method_147_code 0 = .ok (.aload_n 0, 1) := by decide +kernel
theorem d36_1 : decode jdk_42_method_147_code 1 = .ok (.invokevirtual 335, 3) := by decide +kernel
theorem d36_4 : decode jdk_42_method_147_code 4 = .ok (.iload_n 3, 1) := by decide +kernel
theorem d36_5 : decode jdk_42_method_147_code 5 = .ok (.if_icmp .ne 23, 3) := by decide +kernel
theorem d36_8 : decode jdk_42_method_147_code 8 = .ok (.aload_n 0, 1) := by decide +kernel
theorem d36_9 : decode jdk_42_method_147_code 9 = .ok (.getfield 9, 3) := by decide +kernel
theorem d36_12 : decode jdk_42_method_147_code 12 = .ok (.iconst 0, 1) := by decide +kernel
theorem d36_13 : decode jdk_42_method_147_code 13 = .ok (.aload_n 1, 1) := by decide +kernel
theorem d36_14 : decode jdk_42_method_147_code 14 = .ok (.iload_n 2, 1) := by decide +kernel
theorem d36_15 : decode jdk_42_method_147_code 15 = .ok (.iload_n 3, 1) := by decide +kernel
theorem d36_16 : decode jdk_42_method_147_code 16 = .ok (.ishl, 1) := by decide +kernel
theorem d36_17 : decode jdk_42_method_147_code 17 = .ok (.aload_n 0, 1) := by decide +kernel
theorem d36_18 : decode jdk_42_method_147_code 18 = .ok (.getfield 9, 3) := by decide +kernel
theorem d36_21 : decode jdk_42_method_147_code 21 = .ok (.arraylength, 1) := by decide +kernel
theorem d36_22 : decode jdk_42_method_147_code 22 = .ok (.invokestatic 212, 3) := by decide +kernel
theorem d36_25 : decode jdk_42_method_147_code 25 = .ok (.goto 18, 3) := by decide +kernel
theorem d36_43 : decode jdk_42_method_147_code 43 = .ok (.return_, 1) := by decide +kernel
theorem ef_36_0 (m : MethodId) (x0 : Addr) (x1 : Addr) : entryFrame m #[(.ref x0), (.ref x1), (.int (0 : Int32)), (.int (0 : Int32))] 4 = mkF m 0 #[.val (.ref x0), .val (.ref x1), .val (.int (0 : Int32)), .val (.int (0 : Int32))] [] := by first | (simp [entryFrame, mkF, argsToLocals, Value.category]; done) | rfl
def Q36_0 (Z : State) (a2 : Addr) (kb : ClassId) (x0 : Int32) (h0 : Heap) (n0 : Nat) (v : Option Value) (h : Heap) (L : List Loc) : Prop := v = none ∧ Fr n0 L ∧ Keep h0 h [a2] ∧ Arv Z h a2 kb .byte (16 : Int32) [(.int x0), (.int (0 : Int32)), (.int (0 : Int32)), (.int (0 : Int32)), (.int (0 : Int32)), (.int (0 : Int32)), (.int (0 : Int32)), (.int (0 : Int32)), (.int (0 : Int32)), (.int (0 : Int32)), (.int (0 : Int32)), (.int (0 : Int32)), (.int (0 : Int32)), (.int (0 : Int32)), (.int (0 : Int32)), (.int (0 : Int32))] (.int (0 : Int32))
set_option maxRecDepth 65536 in
set_option maxHeartbeats 40000000 in
theorem rm36_0 (l : Launch) (Z : State) (a0 : Array Value) (hw : ∀ d ∈ tables_1, d.before a0 Z = true) (ws : List Jvm.Cond) (a1 : Addr) (a2 : Addr) (ts : Addr) (ks kb : ClassId) (x0 : Int32) (w0 : Int32) (rE rL eL : Addr) (kL : ClassId) (nZ : Nat) (h0 : Heap) (n0 : Nat) (Z0 : n0 ≤ h0.size) (Es : Exa Z h0 a1 "java/lang/String") (Cs : Fld Z h0 a1 "java/lang/String" "coder" "B" (.int (0 : Int32))) (Fs : Fld Z h0 a1 "java/lang/String" "value" "[B" (.ref ts)) (Vs : Arv Z h0 ts ks .byte (1 : Int32) [(.int x0)] (.int (0 : Int32))) (Vb : Arv Z h0 a2 kb .byte (16 : Int32) [(.int (0 : Int32)), (.int (0 : Int32)), (.int (0 : Int32)), (.int (0 : Int32)), (.int (0 : Int32)), (.int (0 : Int32)), (.int (0 : Int32)), (.int (0 : Int32)), (.int (0 : Int32)), (.int (0 : Int32)), (.int (0 : Int32)), (.int (0 : Int32)), (.int (0 : Int32)), (.int (0 : Int32)), (.int (0 : Int32)), (.int (0 : Int32))] (.int (0 : Int32))) (g2 : n0 ≤ a2) (nes : ts ≠ a2) (ne1 : a1 ≠ a2) (O0 : Old Z nZ h0) (hz : nZ ≤ n0) (St : own_St Z w0 rE rL eL kL) :
    MF l (⟨"java/lang/String", "getBytes", "([BIB)V"⟩ : MethodName) jdk_42_method_147_code 4 none ws ({ frames := 1, cells := 0, slots := 0, locals := 18 } : Room) #[(.ref a1), (.ref a2), (.int (0 : Int32)), (.int (0 : Int32))] Z h0 (Q36_0 Z a2 kb x0 h0 n0) := by
  refine MetFree.of_bodySF (plainFor_of_name pn_1) hisR ?_
  intro p e s m args below meth c s₁ Bd hml0 hP hK
  obtain ⟨rfl, hZ, hh⟩ := hP
  have hx := Bd.exec
  have hby := Bd.bytes
  have hml : c.maxLocals = 4 := hml0
  have hown : s.vm.findClass "java/lang/String" = some m.cls := findClass_of_methodNamed Bd.named
  have hnm := (name_of_methodNamed Bd.named Bd.method).1
  have X0 : Stand p l e ({ frames := 1, cells := 0, slots := 0, locals := 18 } : Room) s m #[(.ref a1), (.ref a2), (.int (0 : Int32)), (.int (0 : Int32))] below meth c s₁ [] 0 0 := Stand.of_body Bd
  have e0 : s₁.heap = h0 := by rw [← hh, Bd.state]; rfl
  have N0 := Fr.nil n0
  refine Goes.via (next := s₁.setTop (mkF m 0 #[.val (.ref a1), .val (.ref a2), .val (.int (0 : Int32)), .val (.int (0 : Int32))] [])) (fun t k => castTop (ef_36_0 m a1 a2) k) ?_
  refine Goes.via (next := s₁.setTop (mkF m 1 #[sr a1, sr a2, si (0 : Int32), si (0 : Int32)] [(.ref a1)])) (fun t k => XS.aloadN X0.here hx rfl (hb hby d36_0) rfl rfl k) ?_
  obtain ⟨cq1, kq1, q1a, q1b, q1c⟩ := isOf hZ e0 Es
  obtain ⟨_, _, ⟨T1, L1, k1, n1⟩, -, X1, ⟨Lc1, hQ1, l1, y1, z1⟩, st1⟩ := X0.virtualBack hx (y := (⟨"java/lang/String", "coder", "()B"⟩ : MethodName)) (z := (⟨"java/lang/String", "coder", "()B"⟩ : MethodName)) hown (mvT hZ (Wd hw 193 rfl)) (mvT hZ (Wd hw 194 rfl)) (notFace_of_selects (args := #[]) (mvT hZ (Wd hw 196 rfl))) (mvT hZ (Wd hw 196 rfl)) (mvT hZ (Wd hw 195 rfl)) (by decide) (backOf (W := 0) (rm32 l Z a0 hw [] a1 w0 rE rL eL kL nZ h0 n0 Z0 Cs O0 hz St) hZ (Wd hw 197 rfl) (Wd hw 6 rfl) (by decide) (by decide)) q1a q1c (g := (mkF m 1 #[sr a1, sr a2, si (0 : Int32), si (0 : Int32)] [(.ref a1)])) rfl (by rw [hml]; rfl) (Steps.refl _) (argsL := []) (rest := []) (lenOf pd_12 rfl) rfl (by show 2 * 0 + _ ≤ _; exact Nat.le_of_eq rfl) (hb hby d36_1) (fun _ _ => ⟨rfl, e0, (by decide : 0 + 0 ≤ _), (by decide : 0 + 0 ≤ _)⟩)
  dsimp only [Pt.U, Pt.locs, Pt.cells, Pt.slots] at X1 l1 y1 z1 st1 hQ1
  subst l1 y1 z1
  obtain ⟨rfl, N1q, er1⟩ := hQ1
  have e1 : T1.heap = h0 := er1
  have N1 := Fr.app N0 N1q
  refine Goes.via (next := T1.setTop (mkF m 4 #[sr a1, sr a2, si (0 : Int32), si (0 : Int32)] [(.int (0 : Int32))])) (fun t k => st1.trans k) ?_
  refine Goes.via (next := T1.setTop (mkF m 9 #[sr a1, sr a2, si (0 : Int32), si (0 : Int32)] [(.ref a1)])) (fun t k => XS.iloadN X1.here hx rfl (hb hby d36_4) rfl (XS.icmpNo X1.here hx rfl (hb hby d36_5) rfl (teq (show (0 : Int32) = (0 : Int32) from rfl)).2 (XS.aloadN X1.here hx rfl (hb hby d36_8) rfl rfl k))) ?_
  obtain ⟨T2, X2, e2, st2⟩ := getF X1 hx hZ hown (host := "") (Or.inl (Wd hw 32 rfl)) Via.refl e1 Fs (g := (mkF m 9 #[sr a1, sr a2, si (0 : Int32), si (0 : Int32)] [(.ref a1)])) rfl rfl (hb hby d36_9)
  refine Goes.via (next := T2.setTop (mkF m 12 #[sr a1, sr a2, si (0 : Int32), si (0 : Int32)] [(.ref ts)])) st2 ?_
  refine Goes.via (next := T2.setTop (mkF m 18 #[sr a1, sr a2, si (0 : Int32), si (0 : Int32)] [(.ref a1), (.int (0 : Int32)), (.ref a2), (.int (0 : Int32)), (.ref ts)])) (fun t k => XS.iconst X2.here hx rfl (hb hby d36_12) (XS.aloadN X2.here hx rfl (hb hby d36_13) rfl rfl (XS.iloadN X2.here hx rfl (hb hby d36_14) rfl (XS.iloadN X2.here hx rfl (hb hby d36_15) rfl (XS.ishl X2.here hx rfl (hb hby d36_16) rfl (XS.aloadN X2.here hx rfl (hb hby d36_17) rfl rfl k)))))) ?_
  obtain ⟨T3, X3, e3, st3⟩ := getF X2 hx hZ hown (host := "") (Or.inl (Wd hw 32 rfl)) Via.refl e2 Fs (g := (mkF m 18 #[sr a1, sr a2, si (0 : Int32), si (0 : Int32)] [(.ref a1), (.int (0 : Int32)), (.ref a2), (.int (0 : Int32)), (.ref ts)])) rfl rfl (hb hby d36_18)
  refine Goes.via (next := T3.setTop (mkF m 21 #[sr a1, sr a2, si (0 : Int32), si (0 : Int32)] [(.ref ts), (.int (0 : Int32)), (.ref a2), (.int (0 : Int32)), (.ref ts)])) st3 ?_
  obtain ⟨cl4, Ar4, -, Sa4, Na4, -, -⟩ := id Vs
  refine Goes.via (next := T3.setTop (mkF m 22 #[sr a1, sr a2, si (0 : Int32), si (0 : Int32)] [(.int (1 : Int32)), (.int (0 : Int32)), (.ref a2), (.int (0 : Int32)), (.ref ts)])) (fun t k => X3.arraylength hx (by rw [e3]; exact Ar4.1) (State.isArrayOf_alike hZ.alike Ar4.2.1) (g := (mkF m 21 #[sr a1, sr a2, si (0 : Int32), si (0 : Int32)] [(.ref ts), (.int (0 : Int32)), (.ref a2), (.int (0 : Int32)), (.ref ts)])) rfl rfl (hb hby d36_21) _ (by rw [len_of Sa4 Na4]; exact k)) ?_
  obtain ⟨Lw5, X5w, N5w⟩ := ownPack X3 N1
  obtain ⟨T6, _, L6, X6, rfl, N6, K6c, V6c, st6⟩ := cpA X5w hx hZ hown (Wd hw 221 rfl) (Wd hw 224 rfl) (Wd hw 222 rfl) (Wd hw 223 rfl) e3 Vs Vb (us := [(.int x0)]) (Or.inl ⟨rfl, rfl⟩) (by decide) (by decide) (by decide) (by decide) (by decide) rfl (Nat.le_of_ble_eq_true rfl) N5w g2 (g := (mkF m 22 #[sr a1, sr a2, si (0 : Int32), si (0 : Int32)] [(.int (1 : Int32)), (.int (0 : Int32)), (.ref a2), (.int (0 : Int32)), (.ref ts)])) rfl (by rw [hml]; rfl) rfl (hb hby d36_22) (by decide) (W := 0) (by show 2 * 0 + _ ≤ _; exact Nat.le_of_eq rfl) (by decide)
  have V6 : Arv Z T6.heap a2 kb .byte (16 : Int32) [(.int x0), (.int (0 : Int32)), (.int (0 : Int32)), (.int (0 : Int32)), (.int (0 : Int32)), (.int (0 : Int32)), (.int (0 : Int32)), (.int (0 : Int32)), (.int (0 : Int32)), (.int (0 : Int32)), (.int (0 : Int32)), (.int (0 : Int32)), (.int (0 : Int32)), (.int (0 : Int32)), (.int (0 : Int32)), (.int (0 : Int32))] (.int (0 : Int32)) := V6c
  have F6_20 := Es.keep K6c
  have F6_21 := Cs.keep K6c (fun q => ne1 (List.mem_singleton.mp q))
  have F6_22 := Fs.keep K6c (fun q => ne1 (List.mem_singleton.mp q))
  have F6_23 := Vs.keep K6c (fun q => nes (List.mem_singleton.mp q))
  have K6 : Keep h0 T6.heap [a2] := (Keep.refl h0 [a2]).trans K6c (fun x hx => by cases List.mem_singleton.mp hx; exact Or.inl (List.mem_of_getElem? (i := 0) rfl))
  have Z6 : n0 ≤ T6.heap.size := Nat.le_trans Z0 K6c.1
  have O6 := O0.keep K6c (fun x hx => by cases List.mem_singleton.mp hx; exact (Nat.le_trans hz g2))
  refine Goes.via (next := T6.setTop (mkF m 25 #[sr a1, sr a2, si (0 : Int32), si (0 : Int32)] [])) st6 ?_
  refine Goes.via (next := T6.setTop (mkF m 43 #[sr a1, sr a2, si (0 : Int32), si (0 : Int32)] [])) (fun t k => XS.goto X6.here hx rfl (pc0 := 25) (pc' := 43) rfl (hb hby d36_25) (by decide) (by decide) k) ?_
  obtain ⟨fs, hr, hrun, hended, hW, hsame⟩ := X6.leave (v := none) (fun _ => rfl)
  refine ⟨_, _, ?_, hrun, hended, _, _, rfl, ?_, ⟨_, rfl⟩, hW, hsame.mono (by decide) (by decide)⟩
  · exact X6.returnOut hx Bd.returns (hb hby d36_43) hr
  · show Q36_0 Z a2 kb x0 h0 n0 _ T6.heap _
    exact ⟨rfl, N6, K6, V6⟩
theorem d34_0 : decode jdk_68_method_73_code 0 = .ok (.aload_n 0, 1) := by decide +kernel
theorem d34_1 : decode jdk_68_method_73_code 1 = .ok (.aload_n 2, 1) := by decide +kernel
theorem d34_2 : decode jdk_68_method_73_code 2 = .ok (.invokevirtual 397, 3) := by decide +kernel
theorem d34_5 : decode jdk_68_method_73_code 5 = .ok (.aload_n 2, 1) := by decide +kernel
theorem d34_6 : decode jdk_68_method_73_code 6 = .ok (.aload_n 0, 1) := by decide +kernel
theorem d34_7 : decode jdk_68_method_73_code 7 = .ok (.getfield 15, 3) := by decide +kernel
theorem d34_10 : decode jdk_68_method_73_code 10 = .ok (.iload_n 1, 1) := by decide +kernel
theorem d34_11 : decode jdk_68_method_73_code 11 = .ok (.aload_n 0, 1) := by decide +kernel
theorem d34_12 : decode jdk_68_method_73_code 12 = .ok (.getfield 22, 3) := by decide +kernel
theorem d34_15 : decode jdk_68_method_73_code 15 = .ok (.invokevirtual 399, 3) := by decide +kernel
theorem d34_18 : decode jdk_68_method_73_code 18 = .ok (.return_, 1) := by decide +kernel
theorem pd_14 : parseMethodDescriptor "(Ljava/lang/String;)V" = some ⟨[(.object "java/lang/String")], none⟩ := by decide +kernel
theorem pd_15 : parseMethodDescriptor "([BIB)V" = some ⟨[(.array .byte), .int, .byte], none⟩ := by decide +kernel
theorem ef_34_0 (m : MethodId) (x0 : Addr) (x2 : Addr) : entryFrame m #[(.ref x0), (.int (0 : Int32)), (.ref x2)] 3 = mkF m 0 #[.val (.ref x0), .val (.int (0 : Int32)), .val (.ref x2)] [] := by first | (simp [entryFrame, mkF, argsToLocals, Value.category]; done) | rfl
def Q34_0 (Z : State) (tb : Addr) (kb : ClassId) (x0 : Int32) (h0 : Heap) (n0 : Nat) (v : Option Value) (h : Heap) (L : List Loc) : Prop := v = none ∧ Fr n0 L ∧ Keep h0 h [tb] ∧ Arv Z h tb kb .byte (16 : Int32) [(.int x0), (.int (0 : Int32)), (.int (0 : Int32)), (.int (0 : Int32)), (.int (0 : Int32)), (.int (0 : Int32)), (.int (0 : Int32)), (.int (0 : Int32)), (.int (0 : Int32)), (.int (0 : Int32)), (.int (0 : Int32)), (.int (0 : Int32)), (.int (0 : Int32)), (.int (0 : Int32)), (.int (0 : Int32)), (.int (0 : Int32))] (.int (0 : Int32))
set_option maxRecDepth 65536 in
set_option maxHeartbeats 40000000 in
theorem rm34_0 (l : Launch) (Z : State) (a0 : Array Value) (hw : ∀ d ∈ tables_1, d.before a0 Z = true) (ws : List Jvm.Cond) (a1 : Addr) (a2 : Addr) (tb ts : Addr) (kb ks : ClassId) (x0 : Int32) (w0 : Int32) (rE rL eL : Addr) (kL : ClassId) (nZ : Nat) (h0 : Heap) (n0 : Nat) (Z0 : n0 ≤ h0.size) (Eb : Exa Z h0 a1 "java/lang/StringBuilder") (Fb : Fld Z h0 a1 "java/lang/AbstractStringBuilder" "value" "[B" (.ref tb)) (Cb : Fld Z h0 a1 "java/lang/AbstractStringBuilder" "coder" "B" (.int (0 : Int32))) (Nb : Fld Z h0 a1 "java/lang/AbstractStringBuilder" "count" "I" (.int (0 : Int32))) (Vb : Arv Z h0 tb kb .byte (16 : Int32) [(.int (0 : Int32)), (.int (0 : Int32)), (.int (0 : Int32)), (.int (0 : Int32)), (.int (0 : Int32)), (.int (0 : Int32)), (.int (0 : Int32)), (.int (0 : Int32)), (.int (0 : Int32)), (.int (0 : Int32)), (.int (0 : Int32)), (.int (0 : Int32)), (.int (0 : Int32)), (.int (0 : Int32)), (.int (0 : Int32)), (.int (0 : Int32))] (.int (0 : Int32))) (gb : n0 ≤ tb) (Es : Exa Z h0 a2 "java/lang/String") (Cs : Fld Z h0 a2 "java/lang/String" "coder" "B" (.int (0 : Int32))) (Fs : Fld Z h0 a2 "java/lang/String" "value" "[B" (.ref ts)) (Vs : Arv Z h0 ts ks .byte (1 : Int32) [(.int x0)] (.int (0 : Int32))) (nes : ts ≠ tb) (ne2 : a2 ≠ tb) (neb : a1 ≠ tb) (O0 : Old Z nZ h0) (hz : nZ ≤ n0) (St : own_St Z w0 rE rL eL kL) :
    MF l (⟨"java/lang/AbstractStringBuilder", "putStringAt", "(ILjava/lang/String;)V"⟩ : MethodName) jdk_68_method_73_code 3 none ws ({ frames := 2, cells := 0, slots := 0, locals := 33 } : Room) #[(.ref a1), (.int (0 : Int32)), (.ref a2)] Z h0 (Q34_0 Z tb kb x0 h0 n0) := by
  refine MetFree.of_bodySF (plainFor_of_name pn_13) hisR ?_
  intro p e s m args below meth c s₁ Bd hml0 hP hK
  obtain ⟨rfl, hZ, hh⟩ := hP
  have hx := Bd.exec
  have hby := Bd.bytes
  have hml : c.maxLocals = 3 := hml0
  have hown : s.vm.findClass "java/lang/AbstractStringBuilder" = some m.cls := findClass_of_methodNamed Bd.named
  have hnm := (name_of_methodNamed Bd.named Bd.method).1
  have X0 : Stand p l e ({ frames := 2, cells := 0, slots := 0, locals := 33 } : Room) s m #[(.ref a1), (.int (0 : Int32)), (.ref a2)] below meth c s₁ [] 0 0 := Stand.of_body Bd
  have e0 : s₁.heap = h0 := by rw [← hh, Bd.state]; rfl
  have N0 := Fr.nil n0
  refine Goes.via (next := s₁.setTop (mkF m 0 #[.val (.ref a1), .val (.int (0 : Int32)), .val (.ref a2)] [])) (fun t k => castTop (ef_34_0 m a1 a2) k) ?_
  refine Goes.via (next := s₁.setTop (mkF m 2 #[sr a1, si (0 : Int32), sr a2] [(.ref a2), (.ref a1)])) (fun t k => XS.aloadN X0.here hx rfl (hb hby d34_0) rfl rfl (XS.aloadN X0.here hx rfl (hb hby d34_1) rfl rfl k)) ?_
  obtain ⟨cx1, hcx1, hox1⟩ := (Ins.self Eb).cell
  obtain ⟨_, _, ⟨T1, L1, k1, n1⟩, -, X1, ⟨Lc1, hQ1, l1, y1, z1⟩, st1⟩ := X0.privateBack hx (y := (⟨"java/lang/AbstractStringBuilder", "inflateIfNeededFor", "(Ljava/lang/String;)V"⟩ : MethodName)) hown (mvT hZ (Wd hw 210 rfl)) (mvT hZ (Wd hw 211 rfl)) (ownSelP (mvT hZ (Wd hw 213 rfl)) (mvT hZ (Wd hw 212 rfl)) (mvT hZ (Wd hw 211 rfl)) (by decide)) (Cond.privateMethod_at (args := #[]) (mvT hZ (Wd hw 212 rfl))) (mvT hZ (Wd hw 214 rfl)) (by decide) (backOf (W := 0) (rm35 l Z a0 hw [] a1 a2 w0 rE rL eL kL nZ h0 n0 Z0 Cb Es Cs O0 hz St) hZ (Wd hw 214 rfl) (Wd hw 169 rfl) (by decide) (by decide)) (g := (mkF m 2 #[sr a1, si (0 : Int32), sr a2] [(.ref a2), (.ref a1)])) rfl (by rw [hml]; rfl) (Steps.refl _) (cell := cx1) (by rw [e0]; exact hcx1) hox1 (argsL := [(.ref a2)]) (rest := []) (lenOf pd_14 rfl) rfl (by show 2 * 0 + _ ≤ _; exact Nat.le_of_eq rfl) (hb hby d34_2) (fun _ _ => ⟨rfl, e0, (by decide : 0 + 0 ≤ _), (by decide : 0 + 0 ≤ _)⟩)
  dsimp only [Pt.U, Pt.locs, Pt.cells, Pt.slots] at X1 l1 y1 z1 st1 hQ1
  subst l1 y1 z1
  obtain ⟨rfl, N1q, er1⟩ := hQ1
  have e1 : T1.heap = h0 := er1
  have N1 := Fr.app N0 N1q
  refine Goes.via (next := T1.setTop (mkF m 5 #[sr a1, si (0 : Int32), sr a2] [])) (fun t k => st1.trans k) ?_
  refine Goes.via (next := T1.setTop (mkF m 7 #[sr a1, si (0 : Int32), sr a2] [(.ref a1), (.ref a2)])) (fun t k => XS.aloadN X1.here hx rfl (hb hby d34_5) rfl rfl (XS.aloadN X1.here hx rfl (hb hby d34_6) rfl rfl k)) ?_
  obtain ⟨T2, X2, e2, st2⟩ := getF X1 hx hZ hown (host := "") (Or.inl (Wd hw 173 rfl)) Via.refl e1 Fb (g := (mkF m 7 #[sr a1, si (0 : Int32), sr a2] [(.ref a1), (.ref a2)])) rfl rfl (hb hby d34_7)
  refine Goes.via (next := T2.setTop (mkF m 10 #[sr a1, si (0 : Int32), sr a2] [(.ref tb), (.ref a2)])) st2 ?_
  refine Goes.via (next := T2.setTop (mkF m 12 #[sr a1, si (0 : Int32), sr a2] [(.ref a1), (.int (0 : Int32)), (.ref tb), (.ref a2)])) (fun t k => XS.iloadN X2.here hx rfl (hb hby d34_10) rfl (XS.aloadN X2.here hx rfl (hb hby d34_11) rfl rfl k)) ?_
  obtain ⟨T3, X3, e3, st3⟩ := getF X2 hx hZ hown (host := "") (Or.inl (Wd hw 175 rfl)) Via.refl e2 Cb (g := (mkF m 12 #[sr a1, si (0 : Int32), sr a2] [(.ref a1), (.int (0 : Int32)), (.ref tb), (.ref a2)])) rfl rfl (hb hby d34_12)
  refine Goes.via (next := T3.setTop (mkF m 15 #[sr a1, si (0 : Int32), sr a2] [(.int (0 : Int32)), (.int (0 : Int32)), (.ref tb), (.ref a2)])) st3 ?_
  obtain ⟨Lw4, X4w, N4w⟩ := ownPack X3 N1
  obtain ⟨cq5, kq5, q5a, q5b, q5c⟩ := isOf hZ e3 Es
  obtain ⟨_, _, ⟨T5, L5, k5, n5⟩, -, X5, ⟨Lc5, hQ5, l5, y5, z5⟩, st5⟩ := X4w.virtualBack hx (y := (⟨"java/lang/String", "getBytes", "([BIB)V"⟩ : MethodName)) (z := (⟨"java/lang/String", "getBytes", "([BIB)V"⟩ : MethodName)) hown (mvT hZ (Wd hw 216 rfl)) (mvT hZ (Wd hw 217 rfl)) (notFace_of_selects (args := #[]) (mvT hZ (Wd hw 219 rfl))) (mvT hZ (Wd hw 219 rfl)) (mvT hZ (Wd hw 218 rfl)) (by decide) (backOf (W := 0) (rm36_0 l Z a0 hw [] a2 tb ts ks kb x0 w0 rE rL eL kL nZ h0 n0 Z0 Es Cs Fs Vs Vb gb nes ne2 O0 hz St) hZ (Wd hw 220 rfl) (Wd hw 6 rfl) (by decide) (by decide)) q5a q5c (g := (mkF m 15 #[sr a1, si (0 : Int32), sr a2] [(.int (0 : Int32)), (.int (0 : Int32)), (.ref tb), (.ref a2)])) rfl (by rw [hml]; rfl) (Steps.refl _) (argsL := [(.ref tb), (.int (0 : Int32)), (.int (0 : Int32))]) (rest := []) (lenOf pd_15 rfl) rfl (by show 2 * 0 + _ ≤ _; exact Nat.le_of_eq rfl) (hb hby d34_15) (fun _ _ => ⟨rfl, e3, (by decide : 0 + 0 ≤ _), (by decide : 0 + 0 ≤ _)⟩)
  dsimp only [Pt.U, Pt.locs, Pt.cells, Pt.slots] at X5 l5 y5 z5 st5 hQ5
  subst l5 y5 z5
  obtain ⟨rfl, N5q, Kc5, Vc5⟩ := hQ5
  have F5_21 := Eb.keep Kc5
  have F5_22 := Fb.keep Kc5 (fun q => neb (List.mem_singleton.mp q))
  have F5_23 := Cb.keep Kc5 (fun q => neb (List.mem_singleton.mp q))
  have F5_24 := Nb.keep Kc5 (fun q => neb (List.mem_singleton.mp q))
  have F5_25 := Es.keep Kc5
  have F5_26 := Cs.keep Kc5 (fun q => ne2 (List.mem_singleton.mp q))
  have F5_27 := Fs.keep Kc5 (fun q => ne2 (List.mem_singleton.mp q))
  have F5_28 := Vs.keep Kc5 (fun q => nes (List.mem_singleton.mp q))
  have K5 : Keep h0 T5.heap [tb] := (Keep.refl h0 [tb]).trans Kc5 (fun x hx => by cases List.mem_singleton.mp hx; exact Or.inl (List.mem_of_getElem? (i := 0) rfl))
  have Z5 : n0 ≤ T5.heap.size := Nat.le_trans Z0 Kc5.1
  have O5 := O0.keep Kc5 (fun x hx => by cases List.mem_singleton.mp hx; exact (Nat.le_trans hz gb))
  have N5 := Fr.app N4w N5q
  refine Goes.via (next := T5.setTop (mkF m 18 #[sr a1, si (0 : Int32), sr a2] [])) (fun t k => st5.trans k) ?_
  obtain ⟨fs, hr, hrun, hended, hW, hsame⟩ := X5.leave (v := none) (fun _ => rfl)
  refine ⟨_, _, ?_, hrun, hended, _, _, rfl, ?_, ⟨_, rfl⟩, hW, hsame.mono (by decide) (by decide)⟩
  · exact X5.returnOut hx Bd.returns (hb hby d34_18) hr
  · show Q34_0 Z tb kb x0 h0 n0 _ T5.heap _
    exact ⟨rfl, N5, K5, Vc5⟩
theorem d30_0 : decode jdk_68_method_22_code 0 = .ok (.aload_n 1, 1) := by decide +kernel
theorem d30_1 : decode jdk_68_method_22_code 1 = .ok (.ifnonnull 8, 3) := by decide +kernel
theorem d30_9 : decode jdk_68_method_22_code 9 = .ok (.aload_n 1, 1) := by decide +kernel
theorem d30_10 : decode jdk_68_method_22_code 10 = .ok (.invokevirtual 32, 3) := by decide +kernel
theorem d30_13 : decode jdk_68_method_22_code 13 = .ok (.istore_n 2, 1) := by decide +kernel
theorem d30_14 : decode jdk_68_method_22_code 14 = .ok (.aload_n 0, 1) := by decide +kernel
theorem d30_15 : decode jdk_68_method_22_code 15 = .ok (.aload_n 0, 1) := by decide +kernel
theorem d30_16 : decode jdk_68_method_22_code 16 = .ok (.getfield 79, 3) := by decide +kernel
theorem d30_19 : decode jdk_68_method_22_code 19 = .ok (.iload_n 2, 1) := by decide +kernel
theorem d30_20 : decode jdk_68_method_22_code 20 = .ok (.iadd, 1) := by decide +kernel
theorem d30_21 : decode jdk_68_method_22_code 21 = .ok (.invokevirtual 100, 3) := by decide +kernel
theorem d30_24 : decode jdk_68_method_22_code 24 = .ok (.aload_n 0, 1) := by decide +kernel
theorem d30_25 : decode jdk_68_method_22_code 25 = .ok (.aload_n 0, 1) := by decide +kernel
theorem d30_26 : decode jdk_68_method_22_code 26 = .ok (.getfield 79, 3) := by decide +kernel
theorem d30_29 : decode jdk_68_method_22_code 29 = .ok (.aload_n 1, 1) := by decide +kernel
theorem d30_30 : decode jdk_68_method_22_code 30 = .ok (.invokevirtual 208, 3) := by decide +kernel
theorem d30_33 : decode jdk_68_method_22_code 33 = .ok (.aload_n 0, 1) := by decide +kernel
theorem d30_34 : decode jdk_68_method_22_code 34 = .ok (.dup, 1) := by decide +kernel
theorem d30_35 : decode jdk_68_method_22_code 35 = .ok (.getfield 79, 3) := by decide +kernel
theorem d30_38 : decode jdk_68_method_22_code 38 = .ok (.iload_n 2, 1) := by decide +kernel
theorem d30_39 : decode jdk_68_method_22_code 39 = .ok (.iadd, 1) := by decide +kernel
theorem d30_40 : decode jdk_68_method_22_code 40 = .ok (.putfield 79, 3) := by decide +kernel
theorem d30_43 : decode jdk_68_method_22_code 43 = .ok (.aload_n 0, 1) := by decide +kernel
theorem d30_44 : decode jdk_68_method_22_code 44 = .ok (.areturn, 1) := by decide +kernel
theorem pd_16 : parseMethodDescriptor "()I" = some ⟨[], some .int⟩ := by decide +kernel
theorem pd_17 : parseMethodDescriptor "(ILjava/lang/String;)V" = some ⟨[.int, (.object "java/lang/String")], none⟩ := by decide +kernel
theorem ef_30_0 (m : MethodId) (x0 : Addr) (x1 : Addr) : entryFrame m #[(.ref x0), (.ref x1)] 3 = mkF m 0 #[.val (.ref x0), .val (.ref x1), .unset] [] := by first | (simp [entryFrame, mkF, argsToLocals, Value.category]; done) | rfl
def Q30_0 (Z : State) (a1 tb : Addr) (kb : ClassId) (x0 : Int32) (h0 : Heap) (n0 : Nat) (v : Option Value) (h : Heap) (L : List Loc) : Prop := v = some (.ref a1) ∧ Fr n0 L ∧ Keep h0 h [a1, tb] ∧ Exa Z h a1 "java/lang/StringBuilder" ∧ Fld Z h a1 "java/lang/AbstractStringBuilder" "value" "[B" (.ref tb) ∧ Fld Z h a1 "java/lang/AbstractStringBuilder" "coder" "B" (.int (0 : Int32)) ∧ Fld Z h a1 "java/lang/AbstractStringBuilder" "count" "I" (.int (1 : Int32)) ∧ Arv Z h tb kb .byte (16 : Int32) [(.int x0), (.int (0 : Int32)), (.int (0 : Int32)), (.int (0 : Int32)), (.int (0 : Int32)), (.int (0 : Int32)), (.int (0 : Int32)), (.int (0 : Int32)), (.int (0 : Int32)), (.int (0 : Int32)), (.int (0 : Int32)), (.int (0 : Int32)), (.int (0 : Int32)), (.int (0 : Int32)), (.int (0 : Int32)), (.int (0 : Int32))] (.int (0 : Int32))
set_option maxRecDepth 65536 in
set_option maxHeartbeats 40000000 in
theorem rm30_0 (l : Launch) (Z : State) (a0 : Array Value) (hw : ∀ d ∈ tables_1, d.before a0 Z = true) (ws : List Jvm.Cond) (a1 : Addr) (a2 : Addr) (tb ts : Addr) (kb ks : ClassId) (x0 : Int32) (w0 : Int32) (rE rL eL : Addr) (kL : ClassId) (nZ : Nat) (h0 : Heap) (n0 : Nat) (Z0 : n0 ≤ h0.size) (Eb : Exa Z h0 a1 "java/lang/StringBuilder") (Fb : Fld Z h0 a1 "java/lang/AbstractStringBuilder" "value" "[B" (.ref tb)) (Cb : Fld Z h0 a1 "java/lang/AbstractStringBuilder" "coder" "B" (.int (0 : Int32))) (Nb : Fld Z h0 a1 "java/lang/AbstractStringBuilder" "count" "I" (.int (0 : Int32))) (Vb : Arv Z h0 tb kb .byte (16 : Int32) [(.int (0 : Int32)), (.int (0 : Int32)), (.int (0 : Int32)), (.int (0 : Int32)), (.int (0 : Int32)), (.int (0 : Int32)), (.int (0 : Int32)), (.int (0 : Int32)), (.int (0 : Int32)), (.int (0 : Int32)), (.int (0 : Int32)), (.int (0 : Int32)), (.int (0 : Int32)), (.int (0 : Int32)), (.int (0 : Int32)), (.int (0 : Int32))] (.int (0 : Int32))) (gb : n0 ≤ tb) (Es : Exa Z h0 a2 "java/lang/String") (Cs : Fld Z h0 a2 "java/lang/String" "coder" "B" (.int (0 : Int32))) (Fs : Fld Z h0 a2 "java/lang/String" "value" "[B" (.ref ts)) (Vs : Arv Z h0 ts ks .byte (1 : Int32) [(.int x0)] (.int (0 : Int32))) (nes : ts ≠ tb) (ne2 : a2 ≠ tb) (neb : a1 ≠ tb) (g1 : n0 ≤ a1) (O0 : Old Z nZ h0) (hz : nZ ≤ n0) (St : own_St Z w0 rE rL eL kL) :
    MF l (⟨"java/lang/AbstractStringBuilder", "append", "(Ljava/lang/String;)Ljava/lang/AbstractStringBuilder;"⟩ : MethodName) jdk_68_method_22_code 3 (some (.object "java/lang/AbstractStringBuilder")) ws ({ frames := 3, cells := 0, slots := 0, locals := 47 } : Room) #[(.ref a1), (.ref a2)] Z h0 (Q30_0 Z a1 tb kb x0 h0 n0) := by
  refine MetFree.of_bodySF (plainFor_of_name pn_13) hisR ?_
  intro p e s m args below meth c s₁ Bd hml0 hP hK
  obtain ⟨rfl, hZ, hh⟩ := hP
  have hx := Bd.exec
  have hby := Bd.bytes
  have hml : c.maxLocals = 3 := hml0
  have hown : s.vm.findClass "java/lang/AbstractStringBuilder" = some m.cls := findClass_of_methodNamed Bd.named
  have hnm := (name_of_methodNamed Bd.named Bd.method).1
  have X0 : Stand p l e ({ frames := 3, cells := 0, slots := 0, locals := 47 } : Room) s m #[(.ref a1), (.ref a2)] below meth c s₁ [] 0 0 := Stand.of_body Bd
  have e0 : s₁.heap = h0 := by rw [← hh, Bd.state]; rfl
  have N0 := Fr.nil n0
  refine Goes.via (next := s₁.setTop (mkF m 0 #[.val (.ref a1), .val (.ref a2), .unset] [])) (fun t k => castTop (ef_30_0 m a1 a2) k) ?_
  refine Goes.via (next := s₁.setTop (mkF m 1 #[sr a1, sr a2, .unset] [(.ref a2)])) (fun t k => XS.aloadN X0.here hx rfl (hb hby d30_0) rfl rfl k) ?_
  refine Goes.via (next := s₁.setTop (mkF m 9 #[sr a1, sr a2, .unset] [])) (fun t k => XS.ifnonnullYes X0.here hx rfl (pc0 := 1) (pc' := 9) rfl (hb hby d30_1) rfl (by decide) (by decide) k) ?_
  refine Goes.via (next := s₁.setTop (mkF m 10 #[sr a1, sr a2, .unset] [(.ref a2)])) (fun t k => XS.aloadN X0.here hx rfl (hb hby d30_9) rfl rfl k) ?_
  obtain ⟨cq1, kq1, q1a, q1b, q1c⟩ := isOf hZ e0 Es
  obtain ⟨_, _, ⟨T1, L1, k1, n1⟩, -, X1, ⟨Lc1, hQ1, l1, y1, z1⟩, st1⟩ := X0.virtualBack hx (y := (⟨"java/lang/String", "length", "()I"⟩ : MethodName)) (z := (⟨"java/lang/String", "length", "()I"⟩ : MethodName)) hown (mvT hZ (Wd hw 188 rfl)) (mvT hZ (Wd hw 189 rfl)) (notFace_of_selects (args := #[]) (mvT hZ (Wd hw 191 rfl))) (mvT hZ (Wd hw 191 rfl)) (mvT hZ (Wd hw 190 rfl)) (by decide) (backOf (W := 0) (rm31_1 l Z a0 hw [] a2 ts ks _ w0 rE rL eL kL nZ h0 n0 Z0 Es Fs Cs Vs O0 hz St) hZ (Wd hw 192 rfl) (Wd hw 6 rfl) (by decide) (by decide)) q1a q1c (g := (mkF m 10 #[sr a1, sr a2, .unset] [(.ref a2)])) rfl (by rw [hml]; rfl) (Steps.refl _) (argsL := []) (rest := []) (lenOf pd_16 rfl) rfl (by show 2 * 0 + _ ≤ _; exact Nat.le_of_eq rfl) (hb hby d30_10) (fun _ _ => ⟨rfl, e0, (by decide : 0 + 0 ≤ _), (by decide : 0 + 0 ≤ _)⟩)
  dsimp only [Pt.U, Pt.locs, Pt.cells, Pt.slots] at X1 l1 y1 z1 st1 hQ1
  subst l1 y1 z1
  obtain ⟨rfl, N1q, er1⟩ := hQ1
  have e1 : T1.heap = h0 := er1
  have N1 := Fr.app N0 N1q
  refine Goes.via (next := T1.setTop (mkF m 13 #[sr a1, sr a2, .unset] [(.int (1 : Int32))])) (fun t k => st1.trans k) ?_
  refine Goes.via (next := T1.setTop (mkF m 16 #[sr a1, sr a2, si (1 : Int32)] [(.ref a1), (.ref a1)])) (fun t k => XS.istoreN X1.here hx rfl (hb hby d30_13) rfl (l' := #[sr a1, sr a2, si (1 : Int32)]) rfl (XS.aloadN X1.here hx rfl (hb hby d30_14) rfl rfl (XS.aloadN X1.here hx rfl (hb hby d30_15) rfl rfl k))) ?_
  obtain ⟨T2, X2, e2, st2⟩ := getF X1 hx hZ hown (host := "") (Or.inl (Wd hw 198 rfl)) Via.refl e1 Nb (g := (mkF m 16 #[sr a1, sr a2, si (1 : Int32)] [(.ref a1), (.ref a1)])) rfl rfl (hb hby d30_16)
  refine Goes.via (next := T2.setTop (mkF m 19 #[sr a1, sr a2, si (1 : Int32)] [(.int (0 : Int32)), (.ref a1)])) st2 ?_
  refine Goes.via (next := T2.setTop (mkF m 21 #[sr a1, sr a2, si (1 : Int32)] [(.int (1 : Int32)), (.ref a1)])) (fun t k => XS.iloadN X2.here hx rfl (hb hby d30_19) rfl (XS.iadd X2.here hx rfl (hb hby d30_20) rfl k)) ?_
  obtain ⟨Lw3, X3w, N3w⟩ := ownPack X2 N1
  obtain ⟨cx4, hcx4, hox4⟩ := (Ins.self Eb).cell
  obtain ⟨_, _, ⟨T4, L4, k4, n4⟩, -, X4, ⟨Lc4, hQ4, l4, y4, z4⟩, st4⟩ := X3w.privateBack hx (y := (⟨"java/lang/AbstractStringBuilder", "ensureCapacityInternal", "(I)V"⟩ : MethodName)) hown (mvT hZ (Wd hw 200 rfl)) (mvT hZ (Wd hw 201 rfl)) (ownSelP (mvT hZ (Wd hw 203 rfl)) (mvT hZ (Wd hw 202 rfl)) (mvT hZ (Wd hw 201 rfl)) (by decide)) (Cond.privateMethod_at (args := #[]) (mvT hZ (Wd hw 202 rfl))) (mvT hZ (Wd hw 204 rfl)) (by decide) (backOf (W := 0) (rm33_0 l Z a0 hw [] a1 tb kb (0 : Int32) h0 n0 Z0 Fb Cb Vb) hZ (Wd hw 204 rfl) (Wd hw 169 rfl) (by decide) (by decide)) (g := (mkF m 21 #[sr a1, sr a2, si (1 : Int32)] [(.int (1 : Int32)), (.ref a1)])) rfl (by rw [hml]; rfl) (Steps.refl _) (cell := cx4) (by rw [e2]; exact hcx4) hox4 (argsL := [(.int (1 : Int32))]) (rest := []) (lenOf pd_13 rfl) rfl (by show 2 * 0 + _ ≤ _; exact Nat.le_of_eq rfl) (hb hby d30_21) (fun _ _ => ⟨rfl, e2, (by decide : 0 + 0 ≤ _), (by decide : 0 + 0 ≤ _)⟩)
  dsimp only [Pt.U, Pt.locs, Pt.cells, Pt.slots] at X4 l4 y4 z4 st4 hQ4
  subst l4 y4 z4
  obtain ⟨rfl, N4q, er4⟩ := hQ4
  have e4 : T4.heap = h0 := er4
  have N4 := Fr.app N3w N4q
  refine Goes.via (next := T4.setTop (mkF m 24 #[sr a1, sr a2, si (1 : Int32)] [])) (fun t k => st4.trans k) ?_
  refine Goes.via (next := T4.setTop (mkF m 26 #[sr a1, sr a2, si (1 : Int32)] [(.ref a1), (.ref a1)])) (fun t k => XS.aloadN X4.here hx rfl (hb hby d30_24) rfl rfl (XS.aloadN X4.here hx rfl (hb hby d30_25) rfl rfl k)) ?_
  obtain ⟨T5, X5, e5, st5⟩ := getF X4 hx hZ hown (host := "") (Or.inl (Wd hw 198 rfl)) Via.refl e4 Nb (g := (mkF m 26 #[sr a1, sr a2, si (1 : Int32)] [(.ref a1), (.ref a1)])) rfl rfl (hb hby d30_26)
  refine Goes.via (next := T5.setTop (mkF m 29 #[sr a1, sr a2, si (1 : Int32)] [(.int (0 : Int32)), (.ref a1)])) st5 ?_
  refine Goes.via (next := T5.setTop (mkF m 30 #[sr a1, sr a2, si (1 : Int32)] [(.ref a2), (.int (0 : Int32)), (.ref a1)])) (fun t k => XS.aloadN X5.here hx rfl (hb hby d30_29) rfl rfl k) ?_
  obtain ⟨Lw6, X6w, N6w⟩ := ownPack X5 N4
  obtain ⟨cx7, hcx7, hox7⟩ := (Ins.self Eb).cell
  obtain ⟨_, _, ⟨T7, L7, k7, n7⟩, -, X7, ⟨Lc7, hQ7, l7, y7, z7⟩, st7⟩ := X6w.privateBack hx (y := (⟨"java/lang/AbstractStringBuilder", "putStringAt", "(ILjava/lang/String;)V"⟩ : MethodName)) hown (mvT hZ (Wd hw 205 rfl)) (mvT hZ (Wd hw 206 rfl)) (ownSelP (mvT hZ (Wd hw 208 rfl)) (mvT hZ (Wd hw 207 rfl)) (mvT hZ (Wd hw 206 rfl)) (by decide)) (Cond.privateMethod_at (args := #[]) (mvT hZ (Wd hw 207 rfl))) (mvT hZ (Wd hw 209 rfl)) (by decide) (backOf (W := 0) (rm34_0 l Z a0 hw [] a1 a2 tb ts kb ks x0 w0 rE rL eL kL nZ h0 n0 Z0 Eb Fb Cb Nb Vb gb Es Cs Fs Vs nes ne2 neb O0 hz St) hZ (Wd hw 209 rfl) (Wd hw 169 rfl) (by decide) (by decide)) (g := (mkF m 30 #[sr a1, sr a2, si (1 : Int32)] [(.ref a2), (.int (0 : Int32)), (.ref a1)])) rfl (by rw [hml]; rfl) (Steps.refl _) (cell := cx7) (by rw [e5]; exact hcx7) hox7 (argsL := [(.int (0 : Int32)), (.ref a2)]) (rest := []) (lenOf pd_17 rfl) rfl (by show 2 * 0 + _ ≤ _; exact Nat.le_of_eq rfl) (hb hby d30_30) (fun _ _ => ⟨rfl, e5, (by decide : 0 + 0 ≤ _), (by decide : 0 + 0 ≤ _)⟩)
  dsimp only [Pt.U, Pt.locs, Pt.cells, Pt.slots] at X7 l7 y7 z7 st7 hQ7
  subst l7 y7 z7
  obtain ⟨rfl, N7q, Kc7, Vc7⟩ := hQ7
  have F7_34 := Eb.keep Kc7
  have F7_35 := Fb.keep Kc7 (fun q => neb (List.mem_singleton.mp q))
  have F7_36 := Cb.keep Kc7 (fun q => neb (List.mem_singleton.mp q))
  have F7_37 := Nb.keep Kc7 (fun q => neb (List.mem_singleton.mp q))
  have F7_38 := Es.keep Kc7
  have F7_39 := Cs.keep Kc7 (fun q => ne2 (List.mem_singleton.mp q))
  have F7_40 := Fs.keep Kc7 (fun q => ne2 (List.mem_singleton.mp q))
  have F7_41 := Vs.keep Kc7 (fun q => nes (List.mem_singleton.mp q))
  have K7 : Keep h0 T7.heap [a1, tb] := (Keep.refl h0 [a1, tb]).trans Kc7 (fun x hx => by cases List.mem_singleton.mp hx; exact Or.inl (List.mem_of_getElem? (i := 1) rfl))
  have Z7 : n0 ≤ T7.heap.size := Nat.le_trans Z0 Kc7.1
  have O7 := O0.keep Kc7 (fun x hx => by cases List.mem_singleton.mp hx; exact (Nat.le_trans hz gb))
  have N7 := Fr.app N6w N7q
  refine Goes.via (next := T7.setTop (mkF m 33 #[sr a1, sr a2, si (1 : Int32)] [])) (fun t k => st7.trans k) ?_
  refine Goes.via (next := T7.setTop (mkF m 35 #[sr a1, sr a2, si (1 : Int32)] [(.ref a1), (.ref a1)])) (fun t k => XS.aloadN X7.here hx rfl (hb hby d30_33) rfl rfl (XS.dup X7.here hx rfl (hb hby d30_34) rfl rfl k)) ?_
  obtain ⟨T8, X8, e8, st8⟩ := getF X7 hx hZ hown (host := "") (Or.inl (Wd hw 198 rfl)) Via.refl rfl F7_37 (g := (mkF m 35 #[sr a1, sr a2, si (1 : Int32)] [(.ref a1), (.ref a1)])) rfl rfl (hb hby d30_35)
  refine Goes.via (next := T8.setTop (mkF m 38 #[sr a1, sr a2, si (1 : Int32)] [(.int (0 : Int32)), (.ref a1)])) st8 ?_
  refine Goes.via (next := T8.setTop (mkF m 40 #[sr a1, sr a2, si (1 : Int32)] [(.int (1 : Int32)), (.ref a1)])) (fun t k => XS.iloadN X8.here hx rfl (hb hby d30_38) rfl (XS.iadd X8.here hx rfl (hb hby d30_39) rfl k)) ?_
  obtain ⟨T9, h9, X9, e9, W9, st9⟩ := putF X8 hx hZ hown (host := "") (Or.inl (Wd hw 198 rfl)) Via.refl e8 F7_37 F7_34 (Or.inl (Wd hw 199 rfl)) (Wd hw 160 rfl) (ty := .int) (by decide) rfl rfl (g := (mkF m 40 #[sr a1, sr a2, si (1 : Int32)] [(.int (1 : Int32)), (.ref a1)])) rfl rfl (hb hby d30_40)
  have Fw9 := F7_37.same W9
  have F9_53 := F7_34.wr W9
  have F9_54 := F7_35.other W9 (Or.inr (slot_ne (Or.inl (Wd hw 174 rfl)) (Or.inl (Wd hw 199 rfl)) (by decide) (t := (.array .byte)) (t' := .int) (by decide) (by decide)))
  have F9_55 := F7_36.other W9 (Or.inr (slot_ne (Or.inl (Wd hw 176 rfl)) (Or.inl (Wd hw 199 rfl)) (by decide) (t := .byte) (t' := .int) (by decide) (by decide)))
  have F9_56 := Vc7.other W9 (Ne.symm neb)
  have K9 : Keep h0 h9 [a1, tb] := K7.wr W9 (Or.inl (List.mem_of_getElem? (i := 0) rfl))
  have Z9 : n0 ≤ h9.size := Nat.le_trans Z7 (Keep.of_wr W9).1
  have N9 := Fr.snoc X9 N7 g1
  have O9 := O7.wr W9 (Nat.le_trans hz g1)
  refine Goes.via (next := T9.setTop (mkF m 43 #[sr a1, sr a2, si (1 : Int32)] [])) st9 ?_
  refine Goes.via (next := T9.setTop (mkF m 44 #[sr a1, sr a2, si (1 : Int32)] [(.ref a1)])) (fun t k => XS.aloadN X9.here hx rfl (hb hby d30_43) rfl rfl k) ?_
  obtain ⟨fs, hr, hrun, hended, hW, hsame⟩ := X9.leave (v := some (.ref a1)) (fun h => by rw [Bd.returns] at h; cases h)
  refine ⟨_, _, ?_, hrun, hended, _, _, rfl, ?_, ⟨_, rfl⟩, hW, hsame.mono (by decide) (by decide)⟩
  · exact retOut X9 hx (t := (.object "java/lang/AbstractStringBuilder")) Bd.returns rfl (Or.inr (Or.inr (Or.inr (Or.inr ⟨rfl, rfl, rfl⟩)))) (hb hby d30_44) hr
  · show Q30_0 Z a1 tb kb x0 h0 n0 _ T9.heap _
    rw [e9]
    exact ⟨rfl, N9, K9, F9_53, F9_54, F9_55, Fw9, F9_56⟩
theorem d29_0 : decode jdk_67_method_7_code 0 = .ok (.aload_n 0, 1) := by decide +kernel
theorem d29_1 : decode jdk_67_method_7_code 1 = .ok (.aload_n 1, 1) := by decide +kernel
theorem d29_2 : decode jdk_67_method_7_code 2 = .ok (.invokespecial 29, 3) := by decide +kernel
theorem d29_5 : decode jdk_67_method_7_code 5 = .ok (.pop, 1) := by decide +kernel
theorem d29_6 : decode jdk_67_method_7_code 6 = .ok (.aload_n 0, 1) := by decide +kernel
theorem d29_7 : decode jdk_67_method_7_code 7 = .ok (.areturn, 1) := by decide +kernel
theorem pd_18 : parseMethodDescriptor "(Ljava/lang/String;)Ljava/lang/AbstractStringBuilder;" = some ⟨[(.object "java/lang/String")], some (.object "java/lang/AbstractStringBuilder")⟩ := by decide +kernel
theorem ef_29_0 (m : MethodId) (x0 : Addr) (x1 : Addr) : entryFrame m #[(.ref x0), (.ref x1)] 2 = mkF m 0 #[.val (.ref x0), .val (.ref x1)] [] := by first | (simp [entryFrame, mkF, argsToLocals, Value.category]; done) | rfl
def Q29_0 (Z : State) (a1 tb : Addr) (kb : ClassId) (x0 : Int32) (h0 : Heap) (n0 : Nat) (v : Option Value) (h : Heap) (L : List Loc) : Prop := v = some (.ref a1) ∧ Fr n0 L ∧ Keep h0 h [a1, tb] ∧ Exa Z h a1 "java/lang/StringBuilder" ∧ Fld Z h a1 "java/lang/AbstractStringBuilder" "value" "[B" (.ref tb) ∧ Fld Z h a1 "java/lang/AbstractStringBuilder" "coder" "B" (.int (0 : Int32)) ∧ Fld Z h a1 "java/lang/AbstractStringBuilder" "count" "I" (.int (1 : Int32)) ∧ Arv Z h tb kb .byte (16 : Int32) [(.int x0), (.int (0 : Int32)), (.int (0 : Int32)), (.int (0 : Int32)), (.int (0 : Int32)), (.int (0 : Int32)), (.int (0 : Int32)), (.int (0 : Int32)), (.int (0 : Int32)), (.int (0 : Int32)), (.int (0 : Int32)), (.int (0 : Int32)), (.int (0 : Int32)), (.int (0 : Int32)), (.int (0 : Int32)), (.int (0 : Int32))] (.int (0 : Int32))
set_option maxRecDepth 65536 in
set_option maxHeartbeats 40000000 in
theorem rm29_0 (l : Launch) (Z : State) (a0 : Array Value) (hw : ∀ d ∈ tables_1, d.before a0 Z = true) (ws : List Jvm.Cond) (a1 : Addr) (a2 : Addr) (tb ts : Addr) (kb ks : ClassId) (x0 : Int32) (w0 : Int32) (rE rL eL : Addr) (kL : ClassId) (nZ : Nat) (h0 : Heap) (n0 : Nat) (Z0 : n0 ≤ h0.size) (Eb : Exa Z h0 a1 "java/lang/StringBuilder") (Fb : Fld Z h0 a1 "java/lang/AbstractStringBuilder" "value" "[B" (.ref tb)) (Cb : Fld Z h0 a1 "java/lang/AbstractStringBuilder" "coder" "B" (.int (0 : Int32))) (Nb : Fld Z h0 a1 "java/lang/AbstractStringBuilder" "count" "I" (.int (0 : Int32))) (Vb : Arv Z h0 tb kb .byte (16 : Int32) [(.int (0 : Int32)), (.int (0 : Int32)), (.int (0 : Int32)), (.int (0 : Int32)), (.int (0 : Int32)), (.int (0 : Int32)), (.int (0 : Int32)), (.int (0 : Int32)), (.int (0 : Int32)), (.int (0 : Int32)), (.int (0 : Int32)), (.int (0 : Int32)), (.int (0 : Int32)), (.int (0 : Int32)), (.int (0 : Int32)), (.int (0 : Int32))] (.int (0 : Int32))) (gb : n0 ≤ tb) (Es : Exa Z h0 a2 "java/lang/String") (Cs : Fld Z h0 a2 "java/lang/String" "coder" "B" (.int (0 : Int32))) (Fs : Fld Z h0 a2 "java/lang/String" "value" "[B" (.ref ts)) (Vs : Arv Z h0 ts ks .byte (1 : Int32) [(.int x0)] (.int (0 : Int32))) (nes : ts ≠ tb) (ne2 : a2 ≠ tb) (neb : a1 ≠ tb) (g1 : n0 ≤ a1) (n21 : a2 ≠ a1) (ns1 : ts ≠ a1) (O0 : Old Z nZ h0) (hz : nZ ≤ n0) (St : own_St Z w0 rE rL eL kL) :
    MF l (⟨"java/lang/StringBuilder", "append", "(Ljava/lang/String;)Ljava/lang/StringBuilder;"⟩ : MethodName) jdk_67_method_7_code 2 (some (.object "java/lang/StringBuilder")) ws ({ frames := 4, cells := 0, slots := 0, locals := 61 } : Room) #[(.ref a1), (.ref a2)] Z h0 (Q29_0 Z a1 tb kb x0 h0 n0) := by
  refine MetFree.of_bodySF (plainFor_of_name pn_14) hisR ?_
  intro p e s m args below meth c s₁ Bd hml0 hP hK
  obtain ⟨rfl, hZ, hh⟩ := hP
  have hx := Bd.exec
  have hby := Bd.bytes
  have hml : c.maxLocals = 2 := hml0
  have hown : s.vm.findClass "java/lang/StringBuilder" = some m.cls := findClass_of_methodNamed Bd.named
  have hnm := (name_of_methodNamed Bd.named Bd.method).1
  have X0 : Stand p l e ({ frames := 4, cells := 0, slots := 0, locals := 61 } : Room) s m #[(.ref a1), (.ref a2)] below meth c s₁ [] 0 0 := Stand.of_body Bd
  have e0 : s₁.heap = h0 := by rw [← hh, Bd.state]; rfl
  have N0 := Fr.nil n0
  refine Goes.via (next := s₁.setTop (mkF m 0 #[.val (.ref a1), .val (.ref a2)] [])) (fun t k => castTop (ef_29_0 m a1 a2) k) ?_
  refine Goes.via (next := s₁.setTop (mkF m 2 #[sr a1, sr a2] [(.ref a2), (.ref a1)])) (fun t k => XS.aloadN X0.here hx rfl (hb hby d29_0) rfl rfl (XS.aloadN X0.here hx rfl (hb hby d29_1) rfl rfl k)) ?_
  obtain ⟨_, _, ⟨T1, L1, k1, n1⟩, -, X1, ⟨Lc1, hQ1, l1, y1, z1⟩, st1⟩ := superBack X0 hx hZ hown (Wd hw 183 rfl) (ownSameSelf (Wd hw 184 rfl) (Wd hw 203 rfl) rfl (by decide)) (Wd hw 184 rfl) (Wd hw 185 rfl) (by decide) (backOf (W := 0) (rm30_0 l Z a0 hw [] a1 a2 tb ts kb ks x0 w0 rE rL eL kL nZ h0 n0 Z0 Eb Fb Cb Nb Vb gb Es Cs Fs Vs nes ne2 neb g1 O0 hz St) hZ (Wd hw 187 rfl) (Wd hw 169 rfl) (by decide) (by decide)) e0 (Ins.self Eb) (g := (mkF m 2 #[sr a1, sr a2] [(.ref a2), (.ref a1)])) rfl (by rw [hml]; rfl) (Wd hw 187 rfl) (argsL := [(.ref a2)]) (rest := []) (lenOf pd_18 rfl) rfl (by show 2 * 0 + _ ≤ _; exact Nat.le_of_eq rfl) (hb hby d29_2) (fun _ _ => ⟨rfl, e0, (by decide : 0 + 0 ≤ _), (by decide : 0 + 0 ≤ _)⟩)
  dsimp only [Pt.U, Pt.locs, Pt.cells, Pt.slots] at X1 l1 y1 z1 st1 hQ1
  subst l1 y1 z1
  obtain ⟨rfl, N1q, Kc1, Ec1, Fq1, Cq1, Nq1, Vc1⟩ := hQ1
  have F1_5 := Eb.keep Kc1
  have F1_6 := Es.keep Kc1
  have F1_7 := Cs.keep Kc1 (ownNin2 n21 ne2)
  have F1_8 := Fs.keep Kc1 (ownNin2 n21 ne2)
  have F1_9 := Vs.keep Kc1 (ownNin2 ns1 nes)
  have K1 : Keep h0 T1.heap [a1, tb] := (Keep.refl h0 [a1, tb]).trans Kc1 (ownAll2 (P := fun x => x ∈ _ ∨ _ ≤ x) (Or.inl (List.mem_of_getElem? (i := 0) rfl)) (Or.inl (List.mem_of_getElem? (i := 1) rfl)))
  have Z1 : n0 ≤ T1.heap.size := Nat.le_trans Z0 Kc1.1
  have O1 := O0.keep Kc1 (ownAll2 (P := fun x => _ ≤ x) (Nat.le_trans hz g1) (Nat.le_trans hz gb))
  have N1 := Fr.app N0 N1q
  refine Goes.via (next := T1.setTop (mkF m 5 #[sr a1, sr a2] [(.ref a1)])) (fun t k => st1.trans k) ?_
  refine Goes.via (next := T1.setTop (mkF m 7 #[sr a1, sr a2] [(.ref a1)])) (fun t k => XS.pop X1.here hx rfl (hb hby d29_5) rfl rfl (XS.aloadN X1.here hx rfl (hb hby d29_6) rfl rfl k)) ?_
  obtain ⟨fs, hr, hrun, hended, hW, hsame⟩ := X1.leave (v := some (.ref a1)) (fun h => by rw [Bd.returns] at h; cases h)
  refine ⟨_, _, ?_, hrun, hended, _, _, rfl, ?_, ⟨_, rfl⟩, hW, hsame.mono (by decide) (by decide)⟩
  · exact retOut X1 hx (t := (.object "java/lang/StringBuilder")) Bd.returns rfl (Or.inr (Or.inr (Or.inr (Or.inr ⟨rfl, rfl, rfl⟩)))) (hb hby d29_7) hr
  · show Q29_0 Z a1 tb kb x0 h0 n0 _ T1.heap _
    exact ⟨rfl, N1, K1, F1_5, Fq1, Cq1, Nq1, Vc1⟩
theorem ef_33_1 (m : MethodId) (x0 : Addr) : entryFrame m #[(.ref x0), (.int (3 : Int32))] 3 = mkF m 0 #[.val (.ref x0), .val (.int (3 : Int32)), .unset] [] := by first | (simp [entryFrame, mkF, argsToLocals, Value.category]; done) | rfl
def Q33_1 (Z : State) (h0 : Heap) (n0 : Nat) (v : Option Value) (h : Heap) (L : List Loc) : Prop := v = none ∧ Fr n0 L ∧ h = h0
set_option maxRecDepth 65536 in
set_option maxHeartbeats 40000000 in
theorem rm33_1 (l : Launch) (Z : State) (a0 : Array Value) (hw : ∀ d ∈ tables_1, d.before a0 Z = true) (ws : List Jvm.Cond) (a1 : Addr) (tb : Addr) (kb : ClassId) (y0 x0 x1 : Int32) (h0 : Heap) (n0 : Nat) (Z0 : n0 ≤ h0.size) (Fb : Fld Z h0 a1 "java/lang/AbstractStringBuilder" "value" "[B" (.ref tb)) (Cb : Fld Z h0 a1 "java/lang/AbstractStringBuilder" "coder" "B" (.int (0 : Int32))) (Vb : Arv Z h0 tb kb .byte (16 : Int32) [(.int y0), (.int (0 : Int32)), (.int (0 : Int32)), (.int (0 : Int32)), (.int (0 : Int32)), (.int (0 : Int32)), (.int (0 : Int32)), (.int (0 : Int32)), (.int (0 : Int32)), (.int (0 : Int32)), (.int (0 : Int32)), (.int (0 : Int32)), (.int (0 : Int32)), (.int (0 : Int32)), (.int (0 : Int32)), (.int (0 : Int32))] (.int (0 : Int32))) :
    MF l (⟨"java/lang/AbstractStringBuilder", "ensureCapacityInternal", "(I)V"⟩ : MethodName) jdk_68_method_9_code 3 none ws ({ frames := 0, cells := 0, slots := 0, locals := 0 } : Room) #[(.ref a1), (.int (3 : Int32))] Z h0 (Q33_1 Z  h0 n0) := by
  refine MetFree.of_bodySF (plainFor_of_name pn_13) hisR ?_
  intro p e s m args below meth c s₁ Bd hml0 hP hK
  obtain ⟨rfl, hZ, hh⟩ := hP
  have hx := Bd.exec
  have hby := Bd.bytes
  have hml : c.maxLocals = 3 := hml0
  have hown : s.vm.findClass "java/lang/AbstractStringBuilder" = some m.cls := findClass_of_methodNamed Bd.named
  have hnm := (name_of_methodNamed Bd.named Bd.method).1
  have X0 : Stand p l e ({ frames := 0, cells := 0, slots := 0, locals := 0 } : Room) s m #[(.ref a1), (.int (3 : Int32))] below meth c s₁ [] 0 0 := Stand.of_body Bd
  have e0 : s₁.heap = h0 := by rw [← hh, Bd.state]; rfl
  have N0 := Fr.nil n0
  refine Goes.via (next := s₁.setTop (mkF m 0 #[.val (.ref a1), .val (.int (3 : Int32)), .unset] [])) (fun t k => castTop (ef_33_1 m a1) k) ?_
  refine Goes.via (next := s₁.setTop (mkF m 1 #[sr a1, si (3 : Int32), .unset] [(.ref a1)])) (fun t k => XS.aloadN X0.here hx rfl (hb hby d33_0) rfl rfl k) ?_
  obtain ⟨T1, X1, e1, st1⟩ := getF X0 hx hZ hown (host := "") (Or.inl (Wd hw 173 rfl)) Via.refl e0 Fb (g := (mkF m 1 #[sr a1, si (3 : Int32), .unset] [(.ref a1)])) rfl rfl (hb hby d33_1)
  refine Goes.via (next := T1.setTop (mkF m 4 #[sr a1, si (3 : Int32), .unset] [(.ref tb)])) st1 ?_
  obtain ⟨cl2, Ar2, -, Sa2, Na2, -, -⟩ := id Vb
  refine Goes.via (next := T1.setTop (mkF m 5 #[sr a1, si (3 : Int32), .unset] [(.int (16 : Int32))])) (fun t k => X1.arraylength hx (by rw [e1]; exact Ar2.1) (State.isArrayOf_alike hZ.alike Ar2.2.1) (g := (mkF m 4 #[sr a1, si (3 : Int32), .unset] [(.ref tb)])) rfl rfl (hb hby d33_4) _ (by rw [len_of Sa2 Na2]; exact k)) ?_
  refine Goes.via (next := T1.setTop (mkF m 6 #[sr a1, si (3 : Int32), .unset] [(.ref a1), (.int (16 : Int32))])) (fun t k => XS.aloadN X1.here hx rfl (hb hby d33_5) rfl rfl k) ?_
  obtain ⟨T3, X3, e3, st3⟩ := getF X1 hx hZ hown (host := "") (Or.inl (Wd hw 175 rfl)) Via.refl e1 Cb (g := (mkF m 6 #[sr a1, si (3 : Int32), .unset] [(.ref a1), (.int (16 : Int32))])) rfl rfl (hb hby d33_6)
  refine Goes.via (next := T3.setTop (mkF m 9 #[sr a1, si (3 : Int32), .unset] [(.int (0 : Int32)), (.int (16 : Int32))])) st3 ?_
  refine Goes.via (next := T3.setTop (mkF m 38 #[sr a1, si (3 : Int32), si (16 : Int32)] [])) (fun t k => XS.ishr X3.here hx rfl (hb hby d33_9) rfl (XS.istoreN X3.here hx rfl (hb hby d33_10) rfl (l' := #[sr a1, si (3 : Int32), si (16 : Int32)]) rfl (XS.iloadN X3.here hx rfl (hb hby d33_11) rfl (XS.iloadN X3.here hx rfl (hb hby d33_12) rfl (XS.isub X3.here hx rfl (hb hby d33_13) rfl (XS.ifYes X3.here hx rfl (pc0 := 14) (pc' := 38) rfl (hb hby d33_14) rfl ((if0 _ _).trans (flt (show ¬ ((0 : Int32) < (-13 : Int32)) from (by decide))).2.2.2) (by decide) (by decide) k)))))) ?_
  obtain ⟨fs, hr, hrun, hended, hW, hsame⟩ := X3.leave (v := none) (fun _ => rfl)
  refine ⟨_, _, ?_, hrun, hended, _, _, rfl, ?_, ⟨_, rfl⟩, hW, hsame.mono (by decide) (by decide)⟩
  · exact X3.returnOut hx Bd.returns (hb hby d33_38) hr
  · show Q33_1 Z  h0 n0 _ T3.heap _
    rw [e3]
    exact ⟨rfl, N0, rfl⟩
theorem ef_36_1 (m : MethodId) (x0 : Addr) (x1 : Addr) : entryFrame m #[(.ref x0), (.ref x1), (.int (1 : Int32)), (.int (0 : Int32))] 4 = mkF m 0 #[.val (.ref x0), .val (.ref x1), .val (.int (1 : Int32)), .val (.int (0 : Int32))] [] := by first | (simp [entryFrame, mkF, argsToLocals, Value.category]; done) | rfl
def Q36_1 (Z : State) (a2 : Addr) (kb : ClassId) (y0 x0 x1 : Int32) (h0 : Heap) (n0 : Nat) (v : Option Value) (h : Heap) (L : List Loc) : Prop := v = none ∧ Fr n0 L ∧ Keep h0 h [a2] ∧ Arv Z h a2 kb .byte (16 : Int32) [(.int y0), (.int x0), (.int x1), (.int (0 : Int32)), (.int (0 : Int32)), (.int (0 : Int32)), (.int (0 : Int32)), (.int (0 : Int32)), (.int (0 : Int32)), (.int (0 : Int32)), (.int (0 : Int32)), (.int (0 : Int32)), (.int (0 : Int32)), (.int (0 : Int32)), (.int (0 : Int32)), (.int (0 : Int32))] (.int (0 : Int32))
set_option maxRecDepth 65536 in
set_option maxHeartbeats 40000000 in
theorem rm36_1 (l : Launch) (Z : State) (a0 : Array Value) (hw : ∀ d ∈ tables_1, d.before a0 Z = true) (ws : List Jvm.Cond) (a1 : Addr) (a2 : Addr) (ts : Addr) (ks kb : ClassId) (y0 x0 x1 : Int32) (w0 : Int32) (rE rL eL : Addr) (kL : ClassId) (nZ : Nat) (h0 : Heap) (n0 : Nat) (Z0 : n0 ≤ h0.size) (Es : Exa Z h0 a1 "java/lang/String") (Cs : Fld Z h0 a1 "java/lang/String" "coder" "B" (.int (0 : Int32))) (Fs : Fld Z h0 a1 "java/lang/String" "value" "[B" (.ref ts)) (Vs : Arv Z h0 ts ks .byte (2 : Int32) [(.int x0), (.int x1)] (.int (0 : Int32))) (Vb : Arv Z h0 a2 kb .byte (16 : Int32) [(.int y0), (.int (0 : Int32)), (.int (0 : Int32)), (.int (0 : Int32)), (.int (0 : Int32)), (.int (0 : Int32)), (.int (0 : Int32)), (.int (0 : Int32)), (.int (0 : Int32)), (.int (0 : Int32)), (.int (0 : Int32)), (.int (0 : Int32)), (.int (0 : Int32)), (.int (0 : Int32)), (.int (0 : Int32)), (.int (0 : Int32))] (.int (0 : Int32))) (g2 : n0 ≤ a2) (nes : ts ≠ a2) (ne1 : a1 ≠ a2) (O0 : Old Z nZ h0) (hz : nZ ≤ n0) (St : own_St Z w0 rE rL eL kL) :
    MF l (⟨"java/lang/String", "getBytes", "([BIB)V"⟩ : MethodName) jdk_42_method_147_code 4 none ws ({ frames := 1, cells := 0, slots := 0, locals := 18 } : Room) #[(.ref a1), (.ref a2), (.int (1 : Int32)), (.int (0 : Int32))] Z h0 (Q36_1 Z a2 kb y0 x0 x1 h0 n0) := by
  refine MetFree.of_bodySF (plainFor_of_name pn_1) hisR ?_
  intro p e s m args below meth c s₁ Bd hml0 hP hK
  obtain ⟨rfl, hZ, hh⟩ := hP
  have hx := Bd.exec
  have hby := Bd.bytes
  have hml : c.maxLocals = 4 := hml0
  have hown : s.vm.findClass "java/lang/String" = some m.cls := findClass_of_methodNamed Bd.named
  have hnm := (name_of_methodNamed Bd.named Bd.method).1
  have X0 : Stand p l e ({ frames := 1, cells := 0, slots := 0, locals := 18 } : Room) s m #[(.ref a1), (.ref a2), (.int (1 : Int32)), (.int (0 : Int32))] below meth c s₁ [] 0 0 := Stand.of_body Bd
  have e0 : s₁.heap = h0 := by rw [← hh, Bd.state]; rfl
  have N0 := Fr.nil n0
  refine Goes.via (next := s₁.setTop (mkF m 0 #[.val (.ref a1), .val (.ref a2), .val (.int (1 : Int32)), .val (.int (0 : Int32))] [])) (fun t k => castTop (ef_36_1 m a1 a2) k) ?_
  refine Goes.via (next := s₁.setTop (mkF m 1 #[sr a1, sr a2, si (1 : Int32), si (0 : Int32)] [(.ref a1)])) (fun t k => XS.aloadN X0.here hx rfl (hb hby d36_0) rfl rfl k) ?_
  obtain ⟨cq1, kq1, q1a, q1b, q1c⟩ := isOf hZ e0 Es
  obtain ⟨_, _, ⟨T1, L1, k1, n1⟩, -, X1, ⟨Lc1, hQ1, l1, y1, z1⟩, st1⟩ := X0.virtualBack hx (y := (⟨"java/lang/String", "coder", "()B"⟩ : MethodName)) (z := (⟨"java/lang/String", "coder", "()B"⟩ : MethodName)) hown (mvT hZ (Wd hw 193 rfl)) (mvT hZ (Wd hw 194 rfl)) (notFace_of_selects (args := #[]) (mvT hZ (Wd hw 196 rfl))) (mvT hZ (Wd hw 196 rfl)) (mvT hZ (Wd hw 195 rfl)) (by decide) (backOf (W := 0) (rm32 l Z a0 hw [] a1 w0 rE rL eL kL nZ h0 n0 Z0 Cs O0 hz St) hZ (Wd hw 197 rfl) (Wd hw 6 rfl) (by decide) (by decide)) q1a q1c (g := (mkF m 1 #[sr a1, sr a2, si (1 : Int32), si (0 : Int32)] [(.ref a1)])) rfl (by rw [hml]; rfl) (Steps.refl _) (argsL := []) (rest := []) (lenOf pd_12 rfl) rfl (by show 2 * 0 + _ ≤ _; exact Nat.le_of_eq rfl) (hb hby d36_1) (fun _ _ => ⟨rfl, e0, (by decide : 0 + 0 ≤ _), (by decide : 0 + 0 ≤ _)⟩)
  dsimp only [Pt.U, Pt.locs, Pt.cells, Pt.slots] at X1 l1 y1 z1 st1 hQ1
  subst l1 y1 z1
  obtain ⟨rfl, N1q, er1⟩ := hQ1
  have e1 : T1.heap = h0 := er1
  have N1 := Fr.app N0 N1q
  refine Goes.via (next := T1.setTop (mkF m 4 #[sr a1, sr a2, si (1 : Int32), si (0 : Int32)] [(.int (0 : Int32))])) (fun t k => st1.trans k) ?_
  refine Goes.via (next := T1.setTop (mkF m 9 #[sr a1, sr a2, si (1 : Int32), si (0 : Int32)] [(.ref a1)])) (fun t k => XS.iloadN X1.here hx rfl (hb hby d36_4) rfl (XS.icmpNo X1.here hx rfl (hb hby d36_5) rfl (teq (show (0 : Int32) = (0 : Int32) from rfl)).2 (XS.aloadN X1.here hx rfl (hb hby d36_8) rfl rfl k))) ?_
  obtain ⟨T2, X2, e2, st2⟩ := getF X1 hx hZ hown (host := "") (Or.inl (Wd hw 32 rfl)) Via.refl e1 Fs (g := (mkF m 9 #[sr a1, sr a2, si (1 : Int32), si (0 : Int32)] [(.ref a1)])) rfl rfl (hb hby d36_9)
  refine Goes.via (next := T2.setTop (mkF m 12 #[sr a1, sr a2, si (1 : Int32), si (0 : Int32)] [(.ref ts)])) st2 ?_
  refine Goes.via (next := T2.setTop (mkF m 18 #[sr a1, sr a2, si (1 : Int32), si (0 : Int32)] [(.ref a1), (.int (1 : Int32)), (.ref a2), (.int (0 : Int32)), (.ref ts)])) (fun t k => XS.iconst X2.here hx rfl (hb hby d36_12) (XS.aloadN X2.here hx rfl (hb hby d36_13) rfl rfl (XS.iloadN X2.here hx rfl (hb hby d36_14) rfl (XS.iloadN X2.here hx rfl (hb hby d36_15) rfl (XS.ishl X2.here hx rfl (hb hby d36_16) rfl (XS.aloadN X2.here hx rfl (hb hby d36_17) rfl rfl k)))))) ?_
  obtain ⟨T3, X3, e3, st3⟩ := getF X2 hx hZ hown (host := "") (Or.inl (Wd hw 32 rfl)) Via.refl e2 Fs (g := (mkF m 18 #[sr a1, sr a2, si (1 : Int32), si (0 : Int32)] [(.ref a1), (.int (1 : Int32)), (.ref a2), (.int (0 : Int32)), (.ref ts)])) rfl rfl (hb hby d36_18)
  refine Goes.via (next := T3.setTop (mkF m 21 #[sr a1, sr a2, si (1 : Int32), si (0 : Int32)] [(.ref ts), (.int (1 : Int32)), (.ref a2), (.int (0 : Int32)), (.ref ts)])) st3 ?_
  obtain ⟨cl4, Ar4, -, Sa4, Na4, -, -⟩ := id Vs
  refine Goes.via (next := T3.setTop (mkF m 22 #[sr a1, sr a2, si (1 : Int32), si (0 : Int32)] [(.int (2 : Int32)), (.int (1 : Int32)), (.ref a2), (.int (0 : Int32)), (.ref ts)])) (fun t k => X3.arraylength hx (by rw [e3]; exact Ar4.1) (State.isArrayOf_alike hZ.alike Ar4.2.1) (g := (mkF m 21 #[sr a1, sr a2, si (1 : Int32), si (0 : Int32)] [(.ref ts), (.int (1 : Int32)), (.ref a2), (.int (0 : Int32)), (.ref ts)])) rfl rfl (hb hby d36_21) _ (by rw [len_of Sa4 Na4]; exact k)) ?_
  obtain ⟨Lw5, X5w, N5w⟩ := ownPack X3 N1
  obtain ⟨T6, _, L6, X6, rfl, N6, K6c, V6c, st6⟩ := cpA X5w hx hZ hown (Wd hw 221 rfl) (Wd hw 224 rfl) (Wd hw 222 rfl) (Wd hw 223 rfl) e3 Vs Vb (us := [(.int x0), (.int x1)]) (Or.inl ⟨rfl, rfl⟩) (by decide) (by decide) (by decide) (by decide) (by decide) rfl (Nat.le_of_ble_eq_true rfl) N5w g2 (g := (mkF m 22 #[sr a1, sr a2, si (1 : Int32), si (0 : Int32)] [(.int (2 : Int32)), (.int (1 : Int32)), (.ref a2), (.int (0 : Int32)), (.ref ts)])) rfl (by rw [hml]; rfl) rfl (hb hby d36_22) (by decide) (W := 0) (by show 2 * 0 + _ ≤ _; exact Nat.le_of_eq rfl) (by decide)
  have V6 : Arv Z T6.heap a2 kb .byte (16 : Int32) [(.int y0), (.int x0), (.int x1), (.int (0 : Int32)), (.int (0 : Int32)), (.int (0 : Int32)), (.int (0 : Int32)), (.int (0 : Int32)), (.int (0 : Int32)), (.int (0 : Int32)), (.int (0 : Int32)), (.int (0 : Int32)), (.int (0 : Int32)), (.int (0 : Int32)), (.int (0 : Int32)), (.int (0 : Int32))] (.int (0 : Int32)) := V6c
  have F6_20 := Es.keep K6c
  have F6_21 := Cs.keep K6c (fun q => ne1 (List.mem_singleton.mp q))
  have F6_22 := Fs.keep K6c (fun q => ne1 (List.mem_singleton.mp q))
  have F6_23 := Vs.keep K6c (fun q => nes (List.mem_singleton.mp q))
  have K6 : Keep h0 T6.heap [a2] := (Keep.refl h0 [a2]).trans K6c (fun x hx => by cases List.mem_singleton.mp hx; exact Or.inl (List.mem_of_getElem? (i := 0) rfl))
  have Z6 : n0 ≤ T6.heap.size := Nat.le_trans Z0 K6c.1
  have O6 := O0.keep K6c (fun x hx => by cases List.mem_singleton.mp hx; exact (Nat.le_trans hz g2))
  refine Goes.via (next := T6.setTop (mkF m 25 #[sr a1, sr a2, si (1 : Int32), si (0 : Int32)] [])) st6 ?_
  refine Goes.via (next := T6.setTop (mkF m 43 #[sr a1, sr a2, si (1 : Int32), si (0 : Int32)] [])) (fun t k => XS.goto X6.here hx rfl (pc0 := 25) (pc' := 43) rfl (hb hby d36_25) (by decide) (by decide) k) ?_
  obtain ⟨fs, hr, hrun, hended, hW, hsame⟩ := X6.leave (v := none) (fun _ => rfl)
  refine ⟨_, _, ?_, hrun, hended, _, _, rfl, ?_, ⟨_, rfl⟩, hW, hsame.mono (by decide) (by decide)⟩
  · exact X6.returnOut hx Bd.returns (hb hby d36_43) hr
  · show Q36_1 Z a2 kb y0 x0 x1 h0 n0 _ T6.heap _
    exact ⟨rfl, N6, K6, V6⟩
theorem ef_34_1 (m : MethodId) (x0 : Addr) (x2 : Addr) : entryFrame m #[(.ref x0), (.int (1 : Int32)), (.ref x2)] 3 = mkF m 0 #[.val (.ref x0), .val (.int (1 : Int32)), .val (.ref x2)] [] := by first | (simp [entryFrame, mkF, argsToLocals, Value.category]; done) | rfl
def Q34_1 (Z : State) (tb : Addr) (kb : ClassId) (y0 x0 x1 : Int32) (h0 : Heap) (n0 : Nat) (v : Option Value) (h : Heap) (L : List Loc) : Prop := v = none ∧ Fr n0 L ∧ Keep h0 h [tb] ∧ Arv Z h tb kb .byte (16 : Int32) [(.int y0), (.int x0), (.int x1), (.int (0 : Int32)), (.int (0 : Int32)), (.int (0 : Int32)), (.int (0 : Int32)), (.int (0 : Int32)), (.int (0 : Int32)), (.int (0 : Int32)), (.int (0 : Int32)), (.int (0 : Int32)), (.int (0 : Int32)), (.int (0 : Int32)), (.int (0 : Int32)), (.int (0 : Int32))] (.int (0 : Int32))
set_option maxRecDepth 65536 in
set_option maxHeartbeats 40000000 in
theorem rm34_1 (l : Launch) (Z : State) (a0 : Array Value) (hw : ∀ d ∈ tables_1, d.before a0 Z = true) (ws : List Jvm.Cond) (a1 : Addr) (a2 : Addr) (tb ts : Addr) (kb ks : ClassId) (y0 x0 x1 : Int32) (w0 : Int32) (rE rL eL : Addr) (kL : ClassId) (nZ : Nat) (h0 : Heap) (n0 : Nat) (Z0 : n0 ≤ h0.size) (Eb : Exa Z h0 a1 "java/lang/StringBuilder") (Fb : Fld Z h0 a1 "java/lang/AbstractStringBuilder" "value" "[B" (.ref tb)) (Cb : Fld Z h0 a1 "java/lang/AbstractStringBuilder" "coder" "B" (.int (0 : Int32))) (Nb : Fld Z h0 a1 "java/lang/AbstractStringBuilder" "count" "I" (.int (1 : Int32))) (Vb : Arv Z h0 tb kb .byte (16 : Int32) [(.int y0), (.int (0 : Int32)), (.int (0 : Int32)), (.int (0 : Int32)), (.int (0 : Int32)), (.int (0 : Int32)), (.int (0 : Int32)), (.int (0 : Int32)), (.int (0 : Int32)), (.int (0 : Int32)), (.int (0 : Int32)), (.int (0 : Int32)), (.int (0 : Int32)), (.int (0 : Int32)), (.int (0 : Int32)), (.int (0 : Int32))] (.int (0 : Int32))) (gb : n0 ≤ tb) (Es : Exa Z h0 a2 "java/lang/String") (Cs : Fld Z h0 a2 "java/lang/String" "coder" "B" (.int (0 : Int32))) (Fs : Fld Z h0 a2 "java/lang/String" "value" "[B" (.ref ts)) (Vs : Arv Z h0 ts ks .byte (2 : Int32) [(.int x0), (.int x1)] (.int (0 : Int32))) (nes : ts ≠ tb) (ne2 : a2 ≠ tb) (neb : a1 ≠ tb) (O0 : Old Z nZ h0) (hz : nZ ≤ n0) (St : own_St Z w0 rE rL eL kL) :
    MF l (⟨"java/lang/AbstractStringBuilder", "putStringAt", "(ILjava/lang/String;)V"⟩ : MethodName) jdk_68_method_73_code 3 none ws ({ frames := 2, cells := 0, slots := 0, locals := 33 } : Room) #[(.ref a1), (.int (1 : Int32)), (.ref a2)] Z h0 (Q34_1 Z tb kb y0 x0 x1 h0 n0) := by
  refine MetFree.of_bodySF (plainFor_of_name pn_13) hisR ?_
  intro p e s m args below meth c s₁ Bd hml0 hP hK
  obtain ⟨rfl, hZ, hh⟩ := hP
  have hx := Bd.exec
  have hby := Bd.bytes
  have hml : c.maxLocals = 3 := hml0
  have hown : s.vm.findClass "java/lang/AbstractStringBuilder" = some m.cls := findClass_of_methodNamed Bd.named
  have hnm := (name_of_methodNamed Bd.named Bd.method).1
  have X0 : Stand p l e ({ frames := 2, cells := 0, slots := 0, locals := 33 } : Room) s m #[(.ref a1), (.int (1 : Int32)), (.ref a2)] below meth c s₁ [] 0 0 := Stand.of_body Bd
  have e0 : s₁.heap = h0 := by rw [← hh, Bd.state]; rfl
  have N0 := Fr.nil n0
  refine Goes.via (next := s₁.setTop (mkF m 0 #[.val (.ref a1), .val (.int (1 : Int32)), .val (.ref a2)] [])) (fun t k => castTop (ef_34_1 m a1 a2) k) ?_
  refine Goes.via (next := s₁.setTop (mkF m 2 #[sr a1, si (1 : Int32), sr a2] [(.ref a2), (.ref a1)])) (fun t k => XS.aloadN X0.here hx rfl (hb hby d34_0) rfl rfl (XS.aloadN X0.here hx rfl (hb hby d34_1) rfl rfl k)) ?_
  obtain ⟨cx1, hcx1, hox1⟩ := (Ins.self Eb).cell
  obtain ⟨_, _, ⟨T1, L1, k1, n1⟩, -, X1, ⟨Lc1, hQ1, l1, y1, z1⟩, st1⟩ := X0.privateBack hx (y := (⟨"java/lang/AbstractStringBuilder", "inflateIfNeededFor", "(Ljava/lang/String;)V"⟩ : MethodName)) hown (mvT hZ (Wd hw 210 rfl)) (mvT hZ (Wd hw 211 rfl)) (ownSelP (mvT hZ (Wd hw 213 rfl)) (mvT hZ (Wd hw 212 rfl)) (mvT hZ (Wd hw 211 rfl)) (by decide)) (Cond.privateMethod_at (args := #[]) (mvT hZ (Wd hw 212 rfl))) (mvT hZ (Wd hw 214 rfl)) (by decide) (backOf (W := 0) (rm35 l Z a0 hw [] a1 a2 w0 rE rL eL kL nZ h0 n0 Z0 Cb Es Cs O0 hz St) hZ (Wd hw 214 rfl) (Wd hw 169 rfl) (by decide) (by decide)) (g := (mkF m 2 #[sr a1, si (1 : Int32), sr a2] [(.ref a2), (.ref a1)])) rfl (by rw [hml]; rfl) (Steps.refl _) (cell := cx1) (by rw [e0]; exact hcx1) hox1 (argsL := [(.ref a2)]) (rest := []) (lenOf pd_14 rfl) rfl (by show 2 * 0 + _ ≤ _; exact Nat.le_of_eq rfl) (hb hby d34_2) (fun _ _ => ⟨rfl, e0, (by decide : 0 + 0 ≤ _), (by decide : 0 + 0 ≤ _)⟩)
  dsimp only [Pt.U, Pt.locs, Pt.cells, Pt.slots] at X1 l1 y1 z1 st1 hQ1
  subst l1 y1 z1
  obtain ⟨rfl, N1q, er1⟩ := hQ1
  have e1 : T1.heap = h0 := er1
  have N1 := Fr.app N0 N1q
  refine Goes.via (next := T1.setTop (mkF m 5 #[sr a1, si (1 : Int32), sr a2] [])) (fun t k => st1.trans k) ?_
  refine Goes.via (next := T1.setTop (mkF m 7 #[sr a1, si (1 : Int32), sr a2] [(.ref a1), (.ref a2)])) (fun t k => XS.aloadN X1.here hx rfl (hb hby d34_5) rfl rfl (XS.aloadN X1.here hx rfl (hb hby d34_6) rfl rfl k)) ?_
  obtain ⟨T2, X2, e2, st2⟩ := getF X1 hx hZ hown (host := "") (Or.inl (Wd hw 173 rfl)) Via.refl e1 Fb (g := (mkF m 7 #[sr a1, si (1 : Int32), sr a2] [(.ref a1), (.ref a2)])) rfl rfl (hb hby d34_7)
  refine Goes.via (next := T2.setTop (mkF m 10 #[sr a1, si (1 : Int32), sr a2] [(.ref tb), (.ref a2)])) st2 ?_
  refine Goes.via (next := T2.setTop (mkF m 12 #[sr a1, si (1 : Int32), sr a2] [(.ref a1), (.int (1 : Int32)), (.ref tb), (.ref a2)])) (fun t k => XS.iloadN X2.here hx rfl (hb hby d34_10) rfl (XS.aloadN X2.here hx rfl (hb hby d34_11) rfl rfl k)) ?_
  obtain ⟨T3, X3, e3, st3⟩ := getF X2 hx hZ hown (host := "") (Or.inl (Wd hw 175 rfl)) Via.refl e2 Cb (g := (mkF m 12 #[sr a1, si (1 : Int32), sr a2] [(.ref a1), (.int (1 : Int32)), (.ref tb), (.ref a2)])) rfl rfl (hb hby d34_12)
  refine Goes.via (next := T3.setTop (mkF m 15 #[sr a1, si (1 : Int32), sr a2] [(.int (0 : Int32)), (.int (1 : Int32)), (.ref tb), (.ref a2)])) st3 ?_
  obtain ⟨Lw4, X4w, N4w⟩ := ownPack X3 N1
  obtain ⟨cq5, kq5, q5a, q5b, q5c⟩ := isOf hZ e3 Es
  obtain ⟨_, _, ⟨T5, L5, k5, n5⟩, -, X5, ⟨Lc5, hQ5, l5, y5, z5⟩, st5⟩ := X4w.virtualBack hx (y := (⟨"java/lang/String", "getBytes", "([BIB)V"⟩ : MethodName)) (z := (⟨"java/lang/String", "getBytes", "([BIB)V"⟩ : MethodName)) hown (mvT hZ (Wd hw 216 rfl)) (mvT hZ (Wd hw 217 rfl)) (notFace_of_selects (args := #[]) (mvT hZ (Wd hw 219 rfl))) (mvT hZ (Wd hw 219 rfl)) (mvT hZ (Wd hw 218 rfl)) (by decide) (backOf (W := 0) (rm36_1 l Z a0 hw [] a2 tb ts ks kb y0 x0 x1 w0 rE rL eL kL nZ h0 n0 Z0 Es Cs Fs Vs Vb gb nes ne2 O0 hz St) hZ (Wd hw 220 rfl) (Wd hw 6 rfl) (by decide) (by decide)) q5a q5c (g := (mkF m 15 #[sr a1, si (1 : Int32), sr a2] [(.int (0 : Int32)), (.int (1 : Int32)), (.ref tb), (.ref a2)])) rfl (by rw [hml]; rfl) (Steps.refl _) (argsL := [(.ref tb), (.int (1 : Int32)), (.int (0 : Int32))]) (rest := []) (lenOf pd_15 rfl) rfl (by show 2 * 0 + _ ≤ _; exact Nat.le_of_eq rfl) (hb hby d34_15) (fun _ _ => ⟨rfl, e3, (by decide : 0 + 0 ≤ _), (by decide : 0 + 0 ≤ _)⟩)
  dsimp only [Pt.U, Pt.locs, Pt.cells, Pt.slots] at X5 l5 y5 z5 st5 hQ5
  subst l5 y5 z5
  obtain ⟨rfl, N5q, Kc5, Vc5⟩ := hQ5
  have F5_21 := Eb.keep Kc5
  have F5_22 := Fb.keep Kc5 (fun q => neb (List.mem_singleton.mp q))
  have F5_23 := Cb.keep Kc5 (fun q => neb (List.mem_singleton.mp q))
  have F5_24 := Nb.keep Kc5 (fun q => neb (List.mem_singleton.mp q))
  have F5_25 := Es.keep Kc5
  have F5_26 := Cs.keep Kc5 (fun q => ne2 (List.mem_singleton.mp q))
  have F5_27 := Fs.keep Kc5 (fun q => ne2 (List.mem_singleton.mp q))
  have F5_28 := Vs.keep Kc5 (fun q => nes (List.mem_singleton.mp q))
  have K5 : Keep h0 T5.heap [tb] := (Keep.refl h0 [tb]).trans Kc5 (fun x hx => by cases List.mem_singleton.mp hx; exact Or.inl (List.mem_of_getElem? (i := 0) rfl))
  have Z5 : n0 ≤ T5.heap.size := Nat.le_trans Z0 Kc5.1
  have O5 := O0.keep Kc5 (fun x hx => by cases List.mem_singleton.mp hx; exact (Nat.le_trans hz gb))
  have N5 := Fr.app N4w N5q
  refine Goes.via (next := T5.setTop (mkF m 18 #[sr a1, si (1 : Int32), sr a2] [])) (fun t k => st5.trans k) ?_
  obtain ⟨fs, hr, hrun, hended, hW, hsame⟩ := X5.leave (v := none) (fun _ => rfl)
  refine ⟨_, _, ?_, hrun, hended, _, _, rfl, ?_, ⟨_, rfl⟩, hW, hsame.mono (by decide) (by decide)⟩
  · exact X5.returnOut hx Bd.returns (hb hby d34_18) hr
  · show Q34_1 Z tb kb y0 x0 x1 h0 n0 _ T5.heap _
    exact ⟨rfl, N5, K5, Vc5⟩
theorem ef_30_1 (m : MethodId) (x0 : Addr) (x1 : Addr) : entryFrame m #[(.ref x0), (.ref x1)] 3 = mkF m 0 #[.val (.ref x0), .val (.ref x1), .unset] [] := by first | (simp [entryFrame, mkF, argsToLocals, Value.category]; done) | rfl
def Q30_1 (Z : State) (a1 tb : Addr) (kb : ClassId) (y0 x0 x1 : Int32) (h0 : Heap) (n0 : Nat) (v : Option Value) (h : Heap) (L : List Loc) : Prop := v = some (.ref a1) ∧ Fr n0 L ∧ Keep h0 h [a1, tb] ∧ Exa Z h a1 "java/lang/StringBuilder" ∧ Fld Z h a1 "java/lang/AbstractStringBuilder" "value" "[B" (.ref tb) ∧ Fld Z h a1 "java/lang/AbstractStringBuilder" "coder" "B" (.int (0 : Int32)) ∧ Fld Z h a1 "java/lang/AbstractStringBuilder" "count" "I" (.int (3 : Int32)) ∧ Arv Z h tb kb .byte (16 : Int32) [(.int y0), (.int x0), (.int x1), (.int (0 : Int32)), (.int (0 : Int32)), (.int (0 : Int32)), (.int (0 : Int32)), (.int (0 : Int32)), (.int (0 : Int32)), (.int (0 : Int32)), (.int (0 : Int32)), (.int (0 : Int32)), (.int (0 : Int32)), (.int (0 : Int32)), (.int (0 : Int32)), (.int (0 : Int32))] (.int (0 : Int32))
set_option maxRecDepth 65536 in
set_option maxHeartbeats 40000000 in
theorem rm30_1 (l : Launch) (Z : State) (a0 : Array Value) (hw : ∀ d ∈ tables_1, d.before a0 Z = true) (ws : List Jvm.Cond) (a1 : Addr) (a2 : Addr) (tb ts : Addr) (kb ks : ClassId) (y0 x0 x1 : Int32) (w0 : Int32) (rE rL eL : Addr) (kL : ClassId) (nZ : Nat) (h0 : Heap) (n0 : Nat) (Z0 : n0 ≤ h0.size) (Eb : Exa Z h0 a1 "java/lang/StringBuilder") (Fb : Fld Z h0 a1 "java/lang/AbstractStringBuilder" "value" "[B" (.ref tb)) (Cb : Fld Z h0 a1 "java/lang/AbstractStringBuilder" "coder" "B" (.int (0 : Int32))) (Nb : Fld Z h0 a1 "java/lang/AbstractStringBuilder" "count" "I" (.int (1 : Int32))) (Vb : Arv Z h0 tb kb .byte (16 : Int32) [(.int y0), (.int (0 : Int32)), (.int (0 : Int32)), (.int (0 : Int32)), (.int (0 : Int32)), (.int (0 : Int32)), (.int (0 : Int32)), (.int (0 : Int32)), (.int (0 : Int32)), (.int (0 : Int32)), (.int (0 : Int32)), (.int (0 : Int32)), (.int (0 : Int32)), (.int (0 : Int32)), (.int (0 : Int32)), (.int (0 : Int32))] (.int (0 : Int32))) (gb : n0 ≤ tb) (Es : Exa Z h0 a2 "java/lang/String") (Cs : Fld Z h0 a2 "java/lang/String" "coder" "B" (.int (0 : Int32))) (Fs : Fld Z h0 a2 "java/lang/String" "value" "[B" (.ref ts)) (Vs : Arv Z h0 ts ks .byte (2 : Int32) [(.int x0), (.int x1)] (.int (0 : Int32))) (nes : ts ≠ tb) (ne2 : a2 ≠ tb) (neb : a1 ≠ tb) (g1 : n0 ≤ a1) (O0 : Old Z nZ h0) (hz : nZ ≤ n0) (St : own_St Z w0 rE rL eL kL) :
    MF l (⟨"java/lang/AbstractStringBuilder", "append", "(Ljava/lang/String;)Ljava/lang/AbstractStringBuilder;"⟩ : MethodName) jdk_68_method_22_code 3 (some (.object "java/lang/AbstractStringBuilder")) ws ({ frames := 3, cells := 0, slots := 0, locals := 47 } : Room) #[(.ref a1), (.ref a2)] Z h0 (Q30_1 Z a1 tb kb y0 x0 x1 h0 n0) := by
  refine MetFree.of_bodySF (plainFor_of_name pn_13) hisR ?_
  intro p e s m args below meth c s₁ Bd hml0 hP hK
  obtain ⟨rfl, hZ, hh⟩ := hP
  have hx := Bd.exec
  have hby := Bd.bytes
  have hml : c.maxLocals = 3 := hml0
  have hown : s.vm.findClass "java/lang/AbstractStringBuilder" = some m.cls := findClass_of_methodNamed Bd.named
  have hnm := (name_of_methodNamed Bd.named Bd.method).1
  have X0 : Stand p l e ({ frames := 3, cells := 0, slots := 0, locals := 47 } : Room) s m #[(.ref a1), (.ref a2)] below meth c s₁ [] 0 0 := Stand.of_body Bd
  have e0 : s₁.heap = h0 := by rw [← hh, Bd.state]; rfl
  have N0 := Fr.nil n0
  refine Goes.via (next := s₁.setTop (mkF m 0 #[.val (.ref a1), .val (.ref a2), .unset] [])) (fun t k => castTop (ef_30_1 m a1 a2) k) ?_
  refine Goes.via (next := s₁.setTop (mkF m 1 #[sr a1, sr a2, .unset] [(.ref a2)])) (fun t k => XS.aloadN X0.here hx rfl (hb hby d30_0) rfl rfl k) ?_
  refine Goes.via (next := s₁.setTop (mkF m 9 #[sr a1, sr a2, .unset] [])) (fun t k => XS.ifnonnullYes X0.here hx rfl (pc0 := 1) (pc' := 9) rfl (hb hby d30_1) rfl (by decide) (by decide) k) ?_
  refine Goes.via (next := s₁.setTop (mkF m 10 #[sr a1, sr a2, .unset] [(.ref a2)])) (fun t k => XS.aloadN X0.here hx rfl (hb hby d30_9) rfl rfl k) ?_
  obtain ⟨cq1, kq1, q1a, q1b, q1c⟩ := isOf hZ e0 Es
  obtain ⟨_, _, ⟨T1, L1, k1, n1⟩, -, X1, ⟨Lc1, hQ1, l1, y1, z1⟩, st1⟩ := X0.virtualBack hx (y := (⟨"java/lang/String", "length", "()I"⟩ : MethodName)) (z := (⟨"java/lang/String", "length", "()I"⟩ : MethodName)) hown (mvT hZ (Wd hw 188 rfl)) (mvT hZ (Wd hw 189 rfl)) (notFace_of_selects (args := #[]) (mvT hZ (Wd hw 191 rfl))) (mvT hZ (Wd hw 191 rfl)) (mvT hZ (Wd hw 190 rfl)) (by decide) (backOf (W := 0) (rm31_2 l Z a0 hw [] a2 ts ks _ w0 rE rL eL kL nZ h0 n0 Z0 Es Fs Cs Vs O0 hz St) hZ (Wd hw 192 rfl) (Wd hw 6 rfl) (by decide) (by decide)) q1a q1c (g := (mkF m 10 #[sr a1, sr a2, .unset] [(.ref a2)])) rfl (by rw [hml]; rfl) (Steps.refl _) (argsL := []) (rest := []) (lenOf pd_16 rfl) rfl (by show 2 * 0 + _ ≤ _; exact Nat.le_of_eq rfl) (hb hby d30_10) (fun _ _ => ⟨rfl, e0, (by decide : 0 + 0 ≤ _), (by decide : 0 + 0 ≤ _)⟩)
  dsimp only [Pt.U, Pt.locs, Pt.cells, Pt.slots] at X1 l1 y1 z1 st1 hQ1
  subst l1 y1 z1
  obtain ⟨rfl, N1q, er1⟩ := hQ1
  have e1 : T1.heap = h0 := er1
  have N1 := Fr.app N0 N1q
  refine Goes.via (next := T1.setTop (mkF m 13 #[sr a1, sr a2, .unset] [(.int (2 : Int32))])) (fun t k => st1.trans k) ?_
  refine Goes.via (next := T1.setTop (mkF m 16 #[sr a1, sr a2, si (2 : Int32)] [(.ref a1), (.ref a1)])) (fun t k => XS.istoreN X1.here hx rfl (hb hby d30_13) rfl (l' := #[sr a1, sr a2, si (2 : Int32)]) rfl (XS.aloadN X1.here hx rfl (hb hby d30_14) rfl rfl (XS.aloadN X1.here hx rfl (hb hby d30_15) rfl rfl k))) ?_
  obtain ⟨T2, X2, e2, st2⟩ := getF X1 hx hZ hown (host := "") (Or.inl (Wd hw 198 rfl)) Via.refl e1 Nb (g := (mkF m 16 #[sr a1, sr a2, si (2 : Int32)] [(.ref a1), (.ref a1)])) rfl rfl (hb hby d30_16)
  refine Goes.via (next := T2.setTop (mkF m 19 #[sr a1, sr a2, si (2 : Int32)] [(.int (1 : Int32)), (.ref a1)])) st2 ?_
  refine Goes.via (next := T2.setTop (mkF m 21 #[sr a1, sr a2, si (2 : Int32)] [(.int (3 : Int32)), (.ref a1)])) (fun t k => XS.iloadN X2.here hx rfl (hb hby d30_19) rfl (XS.iadd X2.here hx rfl (hb hby d30_20) rfl k)) ?_
  obtain ⟨Lw3, X3w, N3w⟩ := ownPack X2 N1
  obtain ⟨cx4, hcx4, hox4⟩ := (Ins.self Eb).cell
  obtain ⟨_, _, ⟨T4, L4, k4, n4⟩, -, X4, ⟨Lc4, hQ4, l4, y4, z4⟩, st4⟩ := X3w.privateBack hx (y := (⟨"java/lang/AbstractStringBuilder", "ensureCapacityInternal", "(I)V"⟩ : MethodName)) hown (mvT hZ (Wd hw 200 rfl)) (mvT hZ (Wd hw 201 rfl)) (ownSelP (mvT hZ (Wd hw 203 rfl)) (mvT hZ (Wd hw 202 rfl)) (mvT hZ (Wd hw 201 rfl)) (by decide)) (Cond.privateMethod_at (args := #[]) (mvT hZ (Wd hw 202 rfl))) (mvT hZ (Wd hw 204 rfl)) (by decide) (backOf (W := 0) (rm33_1 l Z a0 hw [] a1 tb kb y0 (0 : Int32) (0 : Int32) h0 n0 Z0 Fb Cb Vb) hZ (Wd hw 204 rfl) (Wd hw 169 rfl) (by decide) (by decide)) (g := (mkF m 21 #[sr a1, sr a2, si (2 : Int32)] [(.int (3 : Int32)), (.ref a1)])) rfl (by rw [hml]; rfl) (Steps.refl _) (cell := cx4) (by rw [e2]; exact hcx4) hox4 (argsL := [(.int (3 : Int32))]) (rest := []) (lenOf pd_13 rfl) rfl (by show 2 * 0 + _ ≤ _; exact Nat.le_of_eq rfl) (hb hby d30_21) (fun _ _ => ⟨rfl, e2, (by decide : 0 + 0 ≤ _), (by decide : 0 + 0 ≤ _)⟩)
  dsimp only [Pt.U, Pt.locs, Pt.cells, Pt.slots] at X4 l4 y4 z4 st4 hQ4
  subst l4 y4 z4
  obtain ⟨rfl, N4q, er4⟩ := hQ4
  have e4 : T4.heap = h0 := er4
  have N4 := Fr.app N3w N4q
  refine Goes.via (next := T4.setTop (mkF m 24 #[sr a1, sr a2, si (2 : Int32)] [])) (fun t k => st4.trans k) ?_
  refine Goes.via (next := T4.setTop (mkF m 26 #[sr a1, sr a2, si (2 : Int32)] [(.ref a1), (.ref a1)])) (fun t k => XS.aloadN X4.here hx rfl (hb hby d30_24) rfl rfl (XS.aloadN X4.here hx rfl (hb hby d30_25) rfl rfl k)) ?_
  obtain ⟨T5, X5, e5, st5⟩ := getF X4 hx hZ hown (host := "") (Or.inl (Wd hw 198 rfl)) Via.refl e4 Nb (g := (mkF m 26 #[sr a1, sr a2, si (2 : Int32)] [(.ref a1), (.ref a1)])) rfl rfl (hb hby d30_26)
  refine Goes.via (next := T5.setTop (mkF m 29 #[sr a1, sr a2, si (2 : Int32)] [(.int (1 : Int32)), (.ref a1)])) st5 ?_
  refine Goes.via (next := T5.setTop (mkF m 30 #[sr a1, sr a2, si (2 : Int32)] [(.ref a2), (.int (1 : Int32)), (.ref a1)])) (fun t k => XS.aloadN X5.here hx rfl (hb hby d30_29) rfl rfl k) ?_
  obtain ⟨Lw6, X6w, N6w⟩ := ownPack X5 N4
  obtain ⟨cx7, hcx7, hox7⟩ := (Ins.self Eb).cell
  obtain ⟨_, _, ⟨T7, L7, k7, n7⟩, -, X7, ⟨Lc7, hQ7, l7, y7, z7⟩, st7⟩ := X6w.privateBack hx (y := (⟨"java/lang/AbstractStringBuilder", "putStringAt", "(ILjava/lang/String;)V"⟩ : MethodName)) hown (mvT hZ (Wd hw 205 rfl)) (mvT hZ (Wd hw 206 rfl)) (ownSelP (mvT hZ (Wd hw 208 rfl)) (mvT hZ (Wd hw 207 rfl)) (mvT hZ (Wd hw 206 rfl)) (by decide)) (Cond.privateMethod_at (args := #[]) (mvT hZ (Wd hw 207 rfl))) (mvT hZ (Wd hw 209 rfl)) (by decide) (backOf (W := 0) (rm34_1 l Z a0 hw [] a1 a2 tb ts kb ks y0 x0 x1 w0 rE rL eL kL nZ h0 n0 Z0 Eb Fb Cb Nb Vb gb Es Cs Fs Vs nes ne2 neb O0 hz St) hZ (Wd hw 209 rfl) (Wd hw 169 rfl) (by decide) (by decide)) (g := (mkF m 30 #[sr a1, sr a2, si (2 : Int32)] [(.ref a2), (.int (1 : Int32)), (.ref a1)])) rfl (by rw [hml]; rfl) (Steps.refl _) (cell := cx7) (by rw [e5]; exact hcx7) hox7 (argsL := [(.int (1 : Int32)), (.ref a2)]) (rest := []) (lenOf pd_17 rfl) rfl (by show 2 * 0 + _ ≤ _; exact Nat.le_of_eq rfl) (hb hby d30_30) (fun _ _ => ⟨rfl, e5, (by decide : 0 + 0 ≤ _), (by decide : 0 + 0 ≤ _)⟩)
  dsimp only [Pt.U, Pt.locs, Pt.cells, Pt.slots] at X7 l7 y7 z7 st7 hQ7
  subst l7 y7 z7
  obtain ⟨rfl, N7q, Kc7, Vc7⟩ := hQ7
  have F7_34 := Eb.keep Kc7
  have F7_35 := Fb.keep Kc7 (fun q => neb (List.mem_singleton.mp q))
  have F7_36 := Cb.keep Kc7 (fun q => neb (List.mem_singleton.mp q))
  have F7_37 := Nb.keep Kc7 (fun q => neb (List.mem_singleton.mp q))
  have F7_38 := Es.keep Kc7
  have F7_39 := Cs.keep Kc7 (fun q => ne2 (List.mem_singleton.mp q))
  have F7_40 := Fs.keep Kc7 (fun q => ne2 (List.mem_singleton.mp q))
  have F7_41 := Vs.keep Kc7 (fun q => nes (List.mem_singleton.mp q))
  have K7 : Keep h0 T7.heap [a1, tb] := (Keep.refl h0 [a1, tb]).trans Kc7 (fun x hx => by cases List.mem_singleton.mp hx; exact Or.inl (List.mem_of_getElem? (i := 1) rfl))
  have Z7 : n0 ≤ T7.heap.size := Nat.le_trans Z0 Kc7.1
  have O7 := O0.keep Kc7 (fun x hx => by cases List.mem_singleton.mp hx; exact (Nat.le_trans hz gb))
  have N7 := Fr.app N6w N7q
  refine Goes.via (next := T7.setTop (mkF m 33 #[sr a1, sr a2, si (2 : Int32)] [])) (fun t k => st7.trans k) ?_
  refine Goes.via (next := T7.setTop (mkF m 35 #[sr a1, sr a2, si (2 : Int32)] [(.ref a1), (.ref a1)])) (fun t k => XS.aloadN X7.here hx rfl (hb hby d30_33) rfl rfl (XS.dup X7.here hx rfl (hb hby d30_34) rfl rfl k)) ?_
  obtain ⟨T8, X8, e8, st8⟩ := getF X7 hx hZ hown (host := "") (Or.inl (Wd hw 198 rfl)) Via.refl rfl F7_37 (g := (mkF m 35 #[sr a1, sr a2, si (2 : Int32)] [(.ref a1), (.ref a1)])) rfl rfl (hb hby d30_35)
  refine Goes.via (next := T8.setTop (mkF m 38 #[sr a1, sr a2, si (2 : Int32)] [(.int (1 : Int32)), (.ref a1)])) st8 ?_
  refine Goes.via (next := T8.setTop (mkF m 40 #[sr a1, sr a2, si (2 : Int32)] [(.int (3 : Int32)), (.ref a1)])) (fun t k => XS.iloadN X8.here hx rfl (hb hby d30_38) rfl (XS.iadd X8.here hx rfl (hb hby d30_39) rfl k)) ?_
  obtain ⟨T9, h9, X9, e9, W9, st9⟩ := putF X8 hx hZ hown (host := "") (Or.inl (Wd hw 198 rfl)) Via.refl e8 F7_37 F7_34 (Or.inl (Wd hw 199 rfl)) (Wd hw 160 rfl) (ty := .int) (by decide) rfl rfl (g := (mkF m 40 #[sr a1, sr a2, si (2 : Int32)] [(.int (3 : Int32)), (.ref a1)])) rfl rfl (hb hby d30_40)
  have Fw9 := F7_37.same W9
  have F9_53 := F7_34.wr W9
  have F9_54 := F7_35.other W9 (Or.inr (slot_ne (Or.inl (Wd hw 174 rfl)) (Or.inl (Wd hw 199 rfl)) (by decide) (t := (.array .byte)) (t' := .int) (by decide) (by decide)))
  have F9_55 := F7_36.other W9 (Or.inr (slot_ne (Or.inl (Wd hw 176 rfl)) (Or.inl (Wd hw 199 rfl)) (by decide) (t := .byte) (t' := .int) (by decide) (by decide)))
  have F9_56 := Vc7.other W9 (Ne.symm neb)
  have K9 : Keep h0 h9 [a1, tb] := K7.wr W9 (Or.inl (List.mem_of_getElem? (i := 0) rfl))
  have Z9 : n0 ≤ h9.size := Nat.le_trans Z7 (Keep.of_wr W9).1
  have N9 := Fr.snoc X9 N7 g1
  have O9 := O7.wr W9 (Nat.le_trans hz g1)
  refine Goes.via (next := T9.setTop (mkF m 43 #[sr a1, sr a2, si (2 : Int32)] [])) st9 ?_
  refine Goes.via (next := T9.setTop (mkF m 44 #[sr a1, sr a2, si (2 : Int32)] [(.ref a1)])) (fun t k => XS.aloadN X9.here hx rfl (hb hby d30_43) rfl rfl k) ?_
  obtain ⟨fs, hr, hrun, hended, hW, hsame⟩ := X9.leave (v := some (.ref a1)) (fun h => by rw [Bd.returns] at h; cases h)
  refine ⟨_, _, ?_, hrun, hended, _, _, rfl, ?_, ⟨_, rfl⟩, hW, hsame.mono (by decide) (by decide)⟩
  · exact retOut X9 hx (t := (.object "java/lang/AbstractStringBuilder")) Bd.returns rfl (Or.inr (Or.inr (Or.inr (Or.inr ⟨rfl, rfl, rfl⟩)))) (hb hby d30_44) hr
  · show Q30_1 Z a1 tb kb y0 x0 x1 h0 n0 _ T9.heap _
    rw [e9]
    exact ⟨rfl, N9, K9, F9_53, F9_54, F9_55, Fw9, F9_56⟩
theorem ef_29_1 (m : MethodId) (x0 : Addr) (x1 : Addr) : entryFrame m #[(.ref x0), (.ref x1)] 2 = mkF m 0 #[.val (.ref x0), .val (.ref x1)] [] := by first | (simp [entryFrame, mkF, argsToLocals, Value.category]; done) | rfl
def Q29_1 (Z : State) (a1 tb : Addr) (kb : ClassId) (y0 x0 x1 : Int32) (h0 : Heap) (n0 : Nat) (v : Option Value) (h : Heap) (L : List Loc) : Prop := v = some (.ref a1) ∧ Fr n0 L ∧ Keep h0 h [a1, tb] ∧ Exa Z h a1 "java/lang/StringBuilder" ∧ Fld Z h a1 "java/lang/AbstractStringBuilder" "value" "[B" (.ref tb) ∧ Fld Z h a1 "java/lang/AbstractStringBuilder" "coder" "B" (.int (0 : Int32)) ∧ Fld Z h a1 "java/lang/AbstractStringBuilder" "count" "I" (.int (3 : Int32)) ∧ Arv Z h tb kb .byte (16 : Int32) [(.int y0), (.int x0), (.int x1), (.int (0 : Int32)), (.int (0 : Int32)), (.int (0 : Int32)), (.int (0 : Int32)), (.int (0 : Int32)), (.int (0 : Int32)), (.int (0 : Int32)), (.int (0 : Int32)), (.int (0 : Int32)), (.int (0 : Int32)), (.int (0 : Int32)), (.int (0 : Int32)), (.int (0 : Int32))] (.int (0 : Int32))
set_option maxRecDepth 65536 in
set_option maxHeartbeats 40000000 in
theorem rm29_1 (l : Launch) (Z : State) (a0 : Array Value) (hw : ∀ d ∈ tables_1, d.before a0 Z = true) (ws : List Jvm.Cond) (a1 : Addr) (a2 : Addr) (tb ts : Addr) (kb ks : ClassId) (y0 x0 x1 : Int32) (w0 : Int32) (rE rL eL : Addr) (kL : ClassId) (nZ : Nat) (h0 : Heap) (n0 : Nat) (Z0 : n0 ≤ h0.size) (Eb : Exa Z h0 a1 "java/lang/StringBuilder") (Fb : Fld Z h0 a1 "java/lang/AbstractStringBuilder" "value" "[B" (.ref tb)) (Cb : Fld Z h0 a1 "java/lang/AbstractStringBuilder" "coder" "B" (.int (0 : Int32))) (Nb : Fld Z h0 a1 "java/lang/AbstractStringBuilder" "count" "I" (.int (1 : Int32))) (Vb : Arv Z h0 tb kb .byte (16 : Int32) [(.int y0), (.int (0 : Int32)), (.int (0 : Int32)), (.int (0 : Int32)), (.int (0 : Int32)), (.int (0 : Int32)), (.int (0 : Int32)), (.int (0 : Int32)), (.int (0 : Int32)), (.int (0 : Int32)), (.int (0 : Int32)), (.int (0 : Int32)), (.int (0 : Int32)), (.int (0 : Int32)), (.int (0 : Int32)), (.int (0 : Int32))] (.int (0 : Int32))) (gb : n0 ≤ tb) (Es : Exa Z h0 a2 "java/lang/String") (Cs : Fld Z h0 a2 "java/lang/String" "coder" "B" (.int (0 : Int32))) (Fs : Fld Z h0 a2 "java/lang/String" "value" "[B" (.ref ts)) (Vs : Arv Z h0 ts ks .byte (2 : Int32) [(.int x0), (.int x1)] (.int (0 : Int32))) (nes : ts ≠ tb) (ne2 : a2 ≠ tb) (neb : a1 ≠ tb) (g1 : n0 ≤ a1) (n21 : a2 ≠ a1) (ns1 : ts ≠ a1) (O0 : Old Z nZ h0) (hz : nZ ≤ n0) (St : own_St Z w0 rE rL eL kL) :
    MF l (⟨"java/lang/StringBuilder", "append", "(Ljava/lang/String;)Ljava/lang/StringBuilder;"⟩ : MethodName) jdk_67_method_7_code 2 (some (.object "java/lang/StringBuilder")) ws ({ frames := 4, cells := 0, slots := 0, locals := 61 } : Room) #[(.ref a1), (.ref a2)] Z h0 (Q29_1 Z a1 tb kb y0 x0 x1 h0 n0) := by
  refine MetFree.of_bodySF (plainFor_of_name pn_14) hisR ?_
  intro p e s m args below meth c s₁ Bd hml0 hP hK
  obtain ⟨rfl, hZ, hh⟩ := hP
  have hx := Bd.exec
  have hby := Bd.bytes
  have hml : c.maxLocals = 2 := hml0
  have hown : s.vm.findClass "java/lang/StringBuilder" = some m.cls := findClass_of_methodNamed Bd.named
  have hnm := (name_of_methodNamed Bd.named Bd.method).1
  have X0 : Stand p l e ({ frames := 4, cells := 0, slots := 0, locals := 61 } : Room) s m #[(.ref a1), (.ref a2)] below meth c s₁ [] 0 0 := Stand.of_body Bd
  have e0 : s₁.heap = h0 := by rw [← hh, Bd.state]; rfl
  have N0 := Fr.nil n0
  refine Goes.via (next := s₁.setTop (mkF m 0 #[.val (.ref a1), .val (.ref a2)] [])) (fun t k => castTop (ef_29_1 m a1 a2) k) ?_
  refine Goes.via (next := s₁.setTop (mkF m 2 #[sr a1, sr a2] [(.ref a2), (.ref a1)])) (fun t k => XS.aloadN X0.here hx rfl (hb hby d29_0) rfl rfl (XS.aloadN X0.here hx rfl (hb hby d29_1) rfl rfl k)) ?_
  obtain ⟨_, _, ⟨T1, L1, k1, n1⟩, -, X1, ⟨Lc1, hQ1, l1, y1, z1⟩, st1⟩ := superBack X0 hx hZ hown (Wd hw 183 rfl) (ownSameSelf (Wd hw 184 rfl) (Wd hw 203 rfl) rfl (by decide)) (Wd hw 184 rfl) (Wd hw 185 rfl) (by decide) (backOf (W := 0) (rm30_1 l Z a0 hw [] a1 a2 tb ts kb ks y0 x0 x1 w0 rE rL eL kL nZ h0 n0 Z0 Eb Fb Cb Nb Vb gb Es Cs Fs Vs nes ne2 neb g1 O0 hz St) hZ (Wd hw 187 rfl) (Wd hw 169 rfl) (by decide) (by decide)) e0 (Ins.self Eb) (g := (mkF m 2 #[sr a1, sr a2] [(.ref a2), (.ref a1)])) rfl (by rw [hml]; rfl) (Wd hw 187 rfl) (argsL := [(.ref a2)]) (rest := []) (lenOf pd_18 rfl) rfl (by show 2 * 0 + _ ≤ _; exact Nat.le_of_eq rfl) (hb hby d29_2) (fun _ _ => ⟨rfl, e0, (by decide : 0 + 0 ≤ _), (by decide : 0 + 0 ≤ _)⟩)
  dsimp only [Pt.U, Pt.locs, Pt.cells, Pt.slots] at X1 l1 y1 z1 st1 hQ1
  subst l1 y1 z1
  obtain ⟨rfl, N1q, Kc1, Ec1, Fq1, Cq1, Nq1, Vc1⟩ := hQ1
  have F1_5 := Eb.keep Kc1
  have F1_6 := Es.keep Kc1
  have F1_7 := Cs.keep Kc1 (ownNin2 n21 ne2)
  have F1_8 := Fs.keep Kc1 (ownNin2 n21 ne2)
  have F1_9 := Vs.keep Kc1 (ownNin2 ns1 nes)
  have K1 : Keep h0 T1.heap [a1, tb] := (Keep.refl h0 [a1, tb]).trans Kc1 (ownAll2 (P := fun x => x ∈ _ ∨ _ ≤ x) (Or.inl (List.mem_of_getElem? (i := 0) rfl)) (Or.inl (List.mem_of_getElem? (i := 1) rfl)))
  have Z1 : n0 ≤ T1.heap.size := Nat.le_trans Z0 Kc1.1
  have O1 := O0.keep Kc1 (ownAll2 (P := fun x => _ ≤ x) (Nat.le_trans hz g1) (Nat.le_trans hz gb))
  have N1 := Fr.app N0 N1q
  refine Goes.via (next := T1.setTop (mkF m 5 #[sr a1, sr a2] [(.ref a1)])) (fun t k => st1.trans k) ?_
  refine Goes.via (next := T1.setTop (mkF m 7 #[sr a1, sr a2] [(.ref a1)])) (fun t k => XS.pop X1.here hx rfl (hb hby d29_5) rfl rfl (XS.aloadN X1.here hx rfl (hb hby d29_6) rfl rfl k)) ?_
  obtain ⟨fs, hr, hrun, hended, hW, hsame⟩ := X1.leave (v := some (.ref a1)) (fun h => by rw [Bd.returns] at h; cases h)
  refine ⟨_, _, ?_, hrun, hended, _, _, rfl, ?_, ⟨_, rfl⟩, hW, hsame.mono (by decide) (by decide)⟩
  · exact retOut X1 hx (t := (.object "java/lang/StringBuilder")) Bd.returns rfl (Or.inr (Or.inr (Or.inr (Or.inr ⟨rfl, rfl, rfl⟩)))) (hb hby d29_7) hr
  · show Q29_1 Z a1 tb kb y0 x0 x1 h0 n0 _ T1.heap _
    exact ⟨rfl, N1, K1, F1_5, Fq1, Cq1, Nq1, Vc1⟩
theorem ef_33_3 (m : MethodId) (x0 : Addr) : entryFrame m #[(.ref x0), (.int (4 : Int32))] 3 = mkF m 0 #[.val (.ref x0), .val (.int (4 : Int32)), .unset] [] := by first | (simp [entryFrame, mkF, argsToLocals, Value.category]; done) | rfl
def Q33_3 (Z : State) (h0 : Heap) (n0 : Nat) (v : Option Value) (h : Heap) (L : List Loc) : Prop := v = none ∧ Fr n0 L ∧ h = h0
set_option maxRecDepth 65536 in
set_option maxHeartbeats 40000000 in
theorem rm33_3 (l : Launch) (Z : State) (a0 : Array Value) (hw : ∀ d ∈ tables_1, d.before a0 Z = true) (ws : List Jvm.Cond) (a1 : Addr) (tb : Addr) (kb : ClassId) (y0 y1 y2 x0 : Int32) (h0 : Heap) (n0 : Nat) (Z0 : n0 ≤ h0.size) (Fb : Fld Z h0 a1 "java/lang/AbstractStringBuilder" "value" "[B" (.ref tb)) (Cb : Fld Z h0 a1 "java/lang/AbstractStringBuilder" "coder" "B" (.int (0 : Int32))) (Vb : Arv Z h0 tb kb .byte (16 : Int32) [(.int y0), (.int y1), (.int y2), (.int (0 : Int32)), (.int (0 : Int32)), (.int (0 : Int32)), (.int (0 : Int32)), (.int (0 : Int32)), (.int (0 : Int32)), (.int (0 : Int32)), (.int (0 : Int32)), (.int (0 : Int32)), (.int (0 : Int32)), (.int (0 : Int32)), (.int (0 : Int32)), (.int (0 : Int32))] (.int (0 : Int32))) :
    MF l (⟨"java/lang/AbstractStringBuilder", "ensureCapacityInternal", "(I)V"⟩ : MethodName) jdk_68_method_9_code 3 none ws ({ frames := 0, cells := 0, slots := 0, locals := 0 } : Room) #[(.ref a1), (.int (4 : Int32))] Z h0 (Q33_3 Z  h0 n0) := by
  refine MetFree.of_bodySF (plainFor_of_name pn_13) hisR ?_
  intro p e s m args below meth c s₁ Bd hml0 hP hK
  obtain ⟨rfl, hZ, hh⟩ := hP
  have hx := Bd.exec
  have hby := Bd.bytes
  have hml : c.maxLocals = 3 := hml0
  have hown : s.vm.findClass "java/lang/AbstractStringBuilder" = some m.cls := findClass_of_methodNamed Bd.named
  have hnm := (name_of_methodNamed Bd.named Bd.method).1
  have X0 : Stand p l e ({ frames := 0, cells := 0, slots := 0, locals := 0 } : Room) s m #[(.ref a1), (.int (4 : Int32))] below meth c s₁ [] 0 0 := Stand.of_body Bd
  have e0 : s₁.heap = h0 := by rw [← hh, Bd.state]; rfl
  have N0 := Fr.nil n0
  refine Goes.via (next := s₁.setTop (mkF m 0 #[.val (.ref a1), .val (.int (4 : Int32)), .unset] [])) (fun t k => castTop (ef_33_3 m a1) k) ?_
  refine Goes.via (next := s₁.setTop (mkF m 1 #[sr a1, si (4 : Int32), .unset] [(.ref a1)])) (fun t k => XS.aloadN X0.here hx rfl (hb hby d33_0) rfl rfl k) ?_
  obtain ⟨T1, X1, e1, st1⟩ := getF X0 hx hZ hown (host := "") (Or.inl (Wd hw 173 rfl)) Via.refl e0 Fb (g := (mkF m 1 #[sr a1, si (4 : Int32), .unset] [(.ref a1)])) rfl rfl (hb hby d33_1)
  refine Goes.via (next := T1.setTop (mkF m 4 #[sr a1, si (4 : Int32), .unset] [(.ref tb)])) st1 ?_
  obtain ⟨cl2, Ar2, -, Sa2, Na2, -, -⟩ := id Vb
  refine Goes.via (next := T1.setTop (mkF m 5 #[sr a1, si (4 : Int32), .unset] [(.int (16 : Int32))])) (fun t k => X1.arraylength hx (by rw [e1]; exact Ar2.1) (State.isArrayOf_alike hZ.alike Ar2.2.1) (g := (mkF m 4 #[sr a1, si (4 : Int32), .unset] [(.ref tb)])) rfl rfl (hb hby d33_4) _ (by rw [len_of Sa2 Na2]; exact k)) ?_
  refine Goes.via (next := T1.setTop (mkF m 6 #[sr a1, si (4 : Int32), .unset] [(.ref a1), (.int (16 : Int32))])) (fun t k => XS.aloadN X1.here hx rfl (hb hby d33_5) rfl rfl k) ?_
  obtain ⟨T3, X3, e3, st3⟩ := getF X1 hx hZ hown (host := "") (Or.inl (Wd hw 175 rfl)) Via.refl e1 Cb (g := (mkF m 6 #[sr a1, si (4 : Int32), .unset] [(.ref a1), (.int (16 : Int32))])) rfl rfl (hb hby d33_6)
  refine Goes.via (next := T3.setTop (mkF m 9 #[sr a1, si (4 : Int32), .unset] [(.int (0 : Int32)), (.int (16 : Int32))])) st3 ?_
  refine Goes.via (next := T3.setTop (mkF m 38 #[sr a1, si (4 : Int32), si (16 : Int32)] [])) (fun t k => XS.ishr X3.here hx rfl (hb hby d33_9) rfl (XS.istoreN X3.here hx rfl (hb hby d33_10) rfl (l' := #[sr a1, si (4 : Int32), si (16 : Int32)]) rfl (XS.iloadN X3.here hx rfl (hb hby d33_11) rfl (XS.iloadN X3.here hx rfl (hb hby d33_12) rfl (XS.isub X3.here hx rfl (hb hby d33_13) rfl (XS.ifYes X3.here hx rfl (pc0 := 14) (pc' := 38) rfl (hb hby d33_14) rfl ((if0 _ _).trans (flt (show ¬ ((0 : Int32) < (-12 : Int32)) from (by decide))).2.2.2) (by decide) (by decide) k)))))) ?_
  obtain ⟨fs, hr, hrun, hended, hW, hsame⟩ := X3.leave (v := none) (fun _ => rfl)
  refine ⟨_, _, ?_, hrun, hended, _, _, rfl, ?_, ⟨_, rfl⟩, hW, hsame.mono (by decide) (by decide)⟩
  · exact X3.returnOut hx Bd.returns (hb hby d33_38) hr
  · show Q33_3 Z  h0 n0 _ T3.heap _
    rw [e3]
    exact ⟨rfl, N0, rfl⟩
theorem ef_36_3 (m : MethodId) (x0 : Addr) (x1 : Addr) : entryFrame m #[(.ref x0), (.ref x1), (.int (3 : Int32)), (.int (0 : Int32))] 4 = mkF m 0 #[.val (.ref x0), .val (.ref x1), .val (.int (3 : Int32)), .val (.int (0 : Int32))] [] := by first | (simp [entryFrame, mkF, argsToLocals, Value.category]; done) | rfl
def Q36_3 (Z : State) (a2 : Addr) (kb : ClassId) (y0 y1 y2 x0 : Int32) (h0 : Heap) (n0 : Nat) (v : Option Value) (h : Heap) (L : List Loc) : Prop := v = none ∧ Fr n0 L ∧ Keep h0 h [a2] ∧ Arv Z h a2 kb .byte (16 : Int32) [(.int y0), (.int y1), (.int y2), (.int x0), (.int (0 : Int32)), (.int (0 : Int32)), (.int (0 : Int32)), (.int (0 : Int32)), (.int (0 : Int32)), (.int (0 : Int32)), (.int (0 : Int32)), (.int (0 : Int32)), (.int (0 : Int32)), (.int (0 : Int32)), (.int (0 : Int32)), (.int (0 : Int32))] (.int (0 : Int32))
set_option maxRecDepth 65536 in
set_option maxHeartbeats 40000000 in
theorem rm36_3 (l : Launch) (Z : State) (a0 : Array Value) (hw : ∀ d ∈ tables_1, d.before a0 Z = true) (ws : List Jvm.Cond) (a1 : Addr) (a2 : Addr) (ts : Addr) (ks kb : ClassId) (y0 y1 y2 x0 : Int32) (w0 : Int32) (rE rL eL : Addr) (kL : ClassId) (nZ : Nat) (h0 : Heap) (n0 : Nat) (Z0 : n0 ≤ h0.size) (Es : Exa Z h0 a1 "java/lang/String") (Cs : Fld Z h0 a1 "java/lang/String" "coder" "B" (.int (0 : Int32))) (Fs : Fld Z h0 a1 "java/lang/String" "value" "[B" (.ref ts)) (Vs : Arv Z h0 ts ks .byte (1 : Int32) [(.int x0)] (.int (0 : Int32))) (Vb : Arv Z h0 a2 kb .byte (16 : Int32) [(.int y0), (.int y1), (.int y2), (.int (0 : Int32)), (.int (0 : Int32)), (.int (0 : Int32)), (.int (0 : Int32)), (.int (0 : Int32)), (.int (0 : Int32)), (.int (0 : Int32)), (.int (0 : Int32)), (.int (0 : Int32)), (.int (0 : Int32)), (.int (0 : Int32)), (.int (0 : Int32)), (.int (0 : Int32))] (.int (0 : Int32))) (g2 : n0 ≤ a2) (nes : ts ≠ a2) (ne1 : a1 ≠ a2) (O0 : Old Z nZ h0) (hz : nZ ≤ n0) (St : own_St Z w0 rE rL eL kL) :
    MF l (⟨"java/lang/String", "getBytes", "([BIB)V"⟩ : MethodName) jdk_42_method_147_code 4 none ws ({ frames := 1, cells := 0, slots := 0, locals := 18 } : Room) #[(.ref a1), (.ref a2), (.int (3 : Int32)), (.int (0 : Int32))] Z h0 (Q36_3 Z a2 kb y0 y1 y2 x0 h0 n0) := by
  refine MetFree.of_bodySF (plainFor_of_name pn_1) hisR ?_
  intro p e s m args below meth c s₁ Bd hml0 hP hK
  obtain ⟨rfl, hZ, hh⟩ := hP
  have hx := Bd.exec
  have hby := Bd.bytes
  have hml : c.maxLocals = 4 := hml0
  have hown : s.vm.findClass "java/lang/String" = some m.cls := findClass_of_methodNamed Bd.named
  have hnm := (name_of_methodNamed Bd.named Bd.method).1
  have X0 : Stand p l e ({ frames := 1, cells := 0, slots := 0, locals := 18 } : Room) s m #[(.ref a1), (.ref a2), (.int (3 : Int32)), (.int (0 : Int32))] below meth c s₁ [] 0 0 := Stand.of_body Bd
  have e0 : s₁.heap = h0 := by rw [← hh, Bd.state]; rfl
  have N0 := Fr.nil n0
  refine Goes.via (next := s₁.setTop (mkF m 0 #[.val (.ref a1), .val (.ref a2), .val (.int (3 : Int32)), .val (.int (0 : Int32))] [])) (fun t k => castTop (ef_36_3 m a1 a2) k) ?_
  refine Goes.via (next := s₁.setTop (mkF m 1 #[sr a1, sr a2, si (3 : Int32), si (0 : Int32)] [(.ref a1)])) (fun t k => XS.aloadN X0.here hx rfl (hb hby d36_0) rfl rfl k) ?_
  obtain ⟨cq1, kq1, q1a, q1b, q1c⟩ := isOf hZ e0 Es
  obtain ⟨_, _, ⟨T1, L1, k1, n1⟩, -, X1, ⟨Lc1, hQ1, l1, y1, z1⟩, st1⟩ := X0.virtualBack hx (y := (⟨"java/lang/String", "coder", "()B"⟩ : MethodName)) (z := (⟨"java/lang/String", "coder", "()B"⟩ : MethodName)) hown (mvT hZ (Wd hw 193 rfl)) (mvT hZ (Wd hw 194 rfl)) (notFace_of_selects (args := #[]) (mvT hZ (Wd hw 196 rfl))) (mvT hZ (Wd hw 196 rfl)) (mvT hZ (Wd hw 195 rfl)) (by decide) (backOf (W := 0) (rm32 l Z a0 hw [] a1 w0 rE rL eL kL nZ h0 n0 Z0 Cs O0 hz St) hZ (Wd hw 197 rfl) (Wd hw 6 rfl) (by decide) (by decide)) q1a q1c (g := (mkF m 1 #[sr a1, sr a2, si (3 : Int32), si (0 : Int32)] [(.ref a1)])) rfl (by rw [hml]; rfl) (Steps.refl _) (argsL := []) (rest := []) (lenOf pd_12 rfl) rfl (by show 2 * 0 + _ ≤ _; exact Nat.le_of_eq rfl) (hb hby d36_1) (fun _ _ => ⟨rfl, e0, (by decide : 0 + 0 ≤ _), (by decide : 0 + 0 ≤ _)⟩)
  dsimp only [Pt.U, Pt.locs, Pt.cells, Pt.slots] at X1 l1 y1 z1 st1 hQ1
  subst l1 y1 z1
  obtain ⟨rfl, N1q, er1⟩ := hQ1
  have e1 : T1.heap = h0 := er1
  have N1 := Fr.app N0 N1q
  refine Goes.via (next := T1.setTop (mkF m 4 #[sr a1, sr a2, si (3 : Int32), si (0 : Int32)] [(.int (0 : Int32))])) (fun t k => st1.trans k) ?_
  refine Goes.via (next := T1.setTop (mkF m 9 #[sr a1, sr a2, si (3 : Int32), si (0 : Int32)] [(.ref a1)])) (fun t k => XS.iloadN X1.here hx rfl (hb hby d36_4) rfl (XS.icmpNo X1.here hx rfl (hb hby d36_5) rfl (teq (show (0 : Int32) = (0 : Int32) from rfl)).2 (XS.aloadN X1.here hx rfl (hb hby d36_8) rfl rfl k))) ?_
  obtain ⟨T2, X2, e2, st2⟩ := getF X1 hx hZ hown (host := "") (Or.inl (Wd hw 32 rfl)) Via.refl e1 Fs (g := (mkF m 9 #[sr a1, sr a2, si (3 : Int32), si (0 : Int32)] [(.ref a1)])) rfl rfl (hb hby d36_9)
  refine Goes.via (next := T2.setTop (mkF m 12 #[sr a1, sr a2, si (3 : Int32), si (0 : Int32)] [(.ref ts)])) st2 ?_
  refine Goes.via (next := T2.setTop (mkF m 18 #[sr a1, sr a2, si (3 : Int32), si (0 : Int32)] [(.ref a1), (.int (3 : Int32)), (.ref a2), (.int (0 : Int32)), (.ref ts)])) (fun t k => XS.iconst X2.here hx rfl (hb hby d36_12) (XS.aloadN X2.here hx rfl (hb hby d36_13) rfl rfl (XS.iloadN X2.here hx rfl (hb hby d36_14) rfl (XS.iloadN X2.here hx rfl (hb hby d36_15) rfl (XS.ishl X2.here hx rfl (hb hby d36_16) rfl (XS.aloadN X2.here hx rfl (hb hby d36_17) rfl rfl k)))))) ?_
  obtain ⟨T3, X3, e3, st3⟩ := getF X2 hx hZ hown (host := "") (Or.inl (Wd hw 32 rfl)) Via.refl e2 Fs (g := (mkF m 18 #[sr a1, sr a2, si (3 : Int32), si (0 : Int32)] [(.ref a1), (.int (3 : Int32)), (.ref a2), (.int (0 : Int32)), (.ref ts)])) rfl rfl (hb hby d36_18)
  refine Goes.via (next := T3.setTop (mkF m 21 #[sr a1, sr a2, si (3 : Int32), si (0 : Int32)] [(.ref ts), (.int (3 : Int32)), (.ref a2), (.int (0 : Int32)), (.ref ts)])) st3 ?_
  obtain ⟨cl4, Ar4, -, Sa4, Na4, -, -⟩ := id Vs
  refine Goes.via (next := T3.setTop (mkF m 22 #[sr a1, sr a2, si (3 : Int32), si (0 : Int32)] [(.int (1 : Int32)), (.int (3 : Int32)), (.ref a2), (.int (0 : Int32)), (.ref ts)])) (fun t k => X3.arraylength hx (by rw [e3]; exact Ar4.1) (State.isArrayOf_alike hZ.alike Ar4.2.1) (g := (mkF m 21 #[sr a1, sr a2, si (3 : Int32), si (0 : Int32)] [(.ref ts), (.int (3 : Int32)), (.ref a2), (.int (0 : Int32)), (.ref ts)])) rfl rfl (hb hby d36_21) _ (by rw [len_of Sa4 Na4]; exact k)) ?_
  obtain ⟨Lw5, X5w, N5w⟩ := ownPack X3 N1
  obtain ⟨T6, _, L6, X6, rfl, N6, K6c, V6c, st6⟩ := cpA X5w hx hZ hown (Wd hw 221 rfl) (Wd hw 224 rfl) (Wd hw 222 rfl) (Wd hw 223 rfl) e3 Vs Vb (us := [(.int x0)]) (Or.inl ⟨rfl, rfl⟩) (by decide) (by decide) (by decide) (by decide) (by decide) rfl (Nat.le_of_ble_eq_true rfl) N5w g2 (g := (mkF m 22 #[sr a1, sr a2, si (3 : Int32), si (0 : Int32)] [(.int (1 : Int32)), (.int (3 : Int32)), (.ref a2), (.int (0 : Int32)), (.ref ts)])) rfl (by rw [hml]; rfl) rfl (hb hby d36_22) (by decide) (W := 0) (by show 2 * 0 + _ ≤ _; exact Nat.le_of_eq rfl) (by decide)
  have V6 : Arv Z T6.heap a2 kb .byte (16 : Int32) [(.int y0), (.int y1), (.int y2), (.int x0), (.int (0 : Int32)), (.int (0 : Int32)), (.int (0 : Int32)), (.int (0 : Int32)), (.int (0 : Int32)), (.int (0 : Int32)), (.int (0 : Int32)), (.int (0 : Int32)), (.int (0 : Int32)), (.int (0 : Int32)), (.int (0 : Int32)), (.int (0 : Int32))] (.int (0 : Int32)) := V6c
  have F6_20 := Es.keep K6c
  have F6_21 := Cs.keep K6c (fun q => ne1 (List.mem_singleton.mp q))
  have F6_22 := Fs.keep K6c (fun q => ne1 (List.mem_singleton.mp q))
  have F6_23 := Vs.keep K6c (fun q => nes (List.mem_singleton.mp q))
  have K6 : Keep h0 T6.heap [a2] := (Keep.refl h0 [a2]).trans K6c (fun x hx => by cases List.mem_singleton.mp hx; exact Or.inl (List.mem_of_getElem? (i := 0) rfl))
  have Z6 : n0 ≤ T6.heap.size := Nat.le_trans Z0 K6c.1
  have O6 := O0.keep K6c (fun x hx => by cases List.mem_singleton.mp hx; exact (Nat.le_trans hz g2))
  refine Goes.via (next := T6.setTop (mkF m 25 #[sr a1, sr a2, si (3 : Int32), si (0 : Int32)] [])) st6 ?_
  refine Goes.via (next := T6.setTop (mkF m 43 #[sr a1, sr a2, si (3 : Int32), si (0 : Int32)] [])) (fun t k => XS.goto X6.here hx rfl (pc0 := 25) (pc' := 43) rfl (hb hby d36_25) (by decide) (by decide) k) ?_
  obtain ⟨fs, hr, hrun, hended, hW, hsame⟩ := X6.leave (v := none) (fun _ => rfl)
  refine ⟨_, _, ?_, hrun, hended, _, _, rfl, ?_, ⟨_, rfl⟩, hW, hsame.mono (by decide) (by decide)⟩
  · exact X6.returnOut hx Bd.returns (hb hby d36_43) hr
  · show Q36_3 Z a2 kb y0 y1 y2 x0 h0 n0 _ T6.heap _
    exact ⟨rfl, N6, K6, V6⟩
theorem ef_34_3 (m : MethodId) (x0 : Addr) (x2 : Addr) : entryFrame m #[(.ref x0), (.int (3 : Int32)), (.ref x2)] 3 = mkF m 0 #[.val (.ref x0), .val (.int (3 : Int32)), .val (.ref x2)] [] := by first | (simp [entryFrame, mkF, argsToLocals, Value.category]; done) | rfl
def Q34_3 (Z : State) (tb : Addr) (kb : ClassId) (y0 y1 y2 x0 : Int32) (h0 : Heap) (n0 : Nat) (v : Option Value) (h : Heap) (L : List Loc) : Prop := v = none ∧ Fr n0 L ∧ Keep h0 h [tb] ∧ Arv Z h tb kb .byte (16 : Int32) [(.int y0), (.int y1), (.int y2), (.int x0), (.int (0 : Int32)), (.int (0 : Int32)), (.int (0 : Int32)), (.int (0 : Int32)), (.int (0 : Int32)), (.int (0 : Int32)), (.int (0 : Int32)), (.int (0 : Int32)), (.int (0 : Int32)), (.int (0 : Int32)), (.int (0 : Int32)), (.int (0 : Int32))] (.int (0 : Int32))
set_option maxRecDepth 65536 in
set_option maxHeartbeats 40000000 in
theorem rm34_3 (l : Launch) (Z : State) (a0 : Array Value) (hw : ∀ d ∈ tables_1, d.before a0 Z = true) (ws : List Jvm.Cond) (a1 : Addr) (a2 : Addr) (tb ts : Addr) (kb ks : ClassId) (y0 y1 y2 x0 : Int32) (w0 : Int32) (rE rL eL : Addr) (kL : ClassId) (nZ : Nat) (h0 : Heap) (n0 : Nat) (Z0 : n0 ≤ h0.size) (Eb : Exa Z h0 a1 "java/lang/StringBuilder") (Fb : Fld Z h0 a1 "java/lang/AbstractStringBuilder" "value" "[B" (.ref tb)) (Cb : Fld Z h0 a1 "java/lang/AbstractStringBuilder" "coder" "B" (.int (0 : Int32))) (Nb : Fld Z h0 a1 "java/lang/AbstractStringBuilder" "count" "I" (.int (3 : Int32))) (Vb : Arv Z h0 tb kb .byte (16 : Int32) [(.int y0), (.int y1), (.int y2), (.int (0 : Int32)), (.int (0 : Int32)), (.int (0 : Int32)), (.int (0 : Int32)), (.int (0 : Int32)), (.int (0 : Int32)), (.int (0 : Int32)), (.int (0 : Int32)), (.int (0 : Int32)), (.int (0 : Int32)), (.int (0 : Int32)), (.int (0 : Int32)), (.int (0 : Int32))] (.int (0 : Int32))) (gb : n0 ≤ tb) (Es : Exa Z h0 a2 "java/lang/String") (Cs : Fld Z h0 a2 "java/lang/String" "coder" "B" (.int (0 : Int32))) (Fs : Fld Z h0 a2 "java/lang/String" "value" "[B" (.ref ts)) (Vs : Arv Z h0 ts ks .byte (1 : Int32) [(.int x0)] (.int (0 : Int32))) (nes : ts ≠ tb) (ne2 : a2 ≠ tb) (neb : a1 ≠ tb) (O0 : Old Z nZ h0) (hz : nZ ≤ n0) (St : own_St Z w0 rE rL eL kL) :
    MF l (⟨"java/lang/AbstractStringBuilder", "putStringAt", "(ILjava/lang/String;)V"⟩ : MethodName) jdk_68_method_73_code 3 none ws ({ frames := 2, cells := 0, slots := 0, locals := 33 } : Room) #[(.ref a1), (.int (3 : Int32)), (.ref a2)] Z h0 (Q34_3 Z tb kb y0 y1 y2 x0 h0 n0) := by
  refine MetFree.of_bodySF (plainFor_of_name pn_13) hisR ?_
  intro p e s m args below meth c s₁ Bd hml0 hP hK
  obtain ⟨rfl, hZ, hh⟩ := hP
  have hx := Bd.exec
  have hby := Bd.bytes
  have hml : c.maxLocals = 3 := hml0
  have hown : s.vm.findClass "java/lang/AbstractStringBuilder" = some m.cls := findClass_of_methodNamed Bd.named
  have hnm := (name_of_methodNamed Bd.named Bd.method).1
  have X0 : Stand p l e ({ frames := 2, cells := 0, slots := 0, locals := 33 } : Room) s m #[(.ref a1), (.int (3 : Int32)), (.ref a2)] below meth c s₁ [] 0 0 := Stand.of_body Bd
  have e0 : s₁.heap = h0 := by rw [← hh, Bd.state]; rfl
  have N0 := Fr.nil n0
  refine Goes.via (next := s₁.setTop (mkF m 0 #[.val (.ref a1), .val (.int (3 : Int32)), .val (.ref a2)] [])) (fun t k => castTop (ef_34_3 m a1 a2) k) ?_
  refine Goes.via (next := s₁.setTop (mkF m 2 #[sr a1, si (3 : Int32), sr a2] [(.ref a2), (.ref a1)])) (fun t k => XS.aloadN X0.here hx rfl (hb hby d34_0) rfl rfl (XS.aloadN X0.here hx rfl (hb hby d34_1) rfl rfl k)) ?_
  obtain ⟨cx1, hcx1, hox1⟩ := (Ins.self Eb).cell
  obtain ⟨_, _, ⟨T1, L1, k1, n1⟩, -, X1, ⟨Lc1, hQ1, l1, y1, z1⟩, st1⟩ := X0.privateBack hx (y := (⟨"java/lang/AbstractStringBuilder", "inflateIfNeededFor", "(Ljava/lang/String;)V"⟩ : MethodName)) hown (mvT hZ (Wd hw 210 rfl)) (mvT hZ (Wd hw 211 rfl)) (ownSelP (mvT hZ (Wd hw 213 rfl)) (mvT hZ (Wd hw 212 rfl)) (mvT hZ (Wd hw 211 rfl)) (by decide)) (Cond.privateMethod_at (args := #[]) (mvT hZ (Wd hw 212 rfl))) (mvT hZ (Wd hw 214 rfl)) (by decide) (backOf (W := 0) (rm35 l Z a0 hw [] a1 a2 w0 rE rL eL kL nZ h0 n0 Z0 Cb Es Cs O0 hz St) hZ (Wd hw 214 rfl) (Wd hw 169 rfl) (by decide) (by decide)) (g := (mkF m 2 #[sr a1, si (3 : Int32), sr a2] [(.ref a2), (.ref a1)])) rfl (by rw [hml]; rfl) (Steps.refl _) (cell := cx1) (by rw [e0]; exact hcx1) hox1 (argsL := [(.ref a2)]) (rest := []) (lenOf pd_14 rfl) rfl (by show 2 * 0 + _ ≤ _; exact Nat.le_of_eq rfl) (hb hby d34_2) (fun _ _ => ⟨rfl, e0, (by decide : 0 + 0 ≤ _), (by decide : 0 + 0 ≤ _)⟩)
  dsimp only [Pt.U, Pt.locs, Pt.cells, Pt.slots] at X1 l1 y1 z1 st1 hQ1
  subst l1 y1 z1
  obtain ⟨rfl, N1q, er1⟩ := hQ1
  have e1 : T1.heap = h0 := er1
  have N1 := Fr.app N0 N1q
  refine Goes.via (next := T1.setTop (mkF m 5 #[sr a1, si (3 : Int32), sr a2] [])) (fun t k => st1.trans k) ?_
  refine Goes.via (next := T1.setTop (mkF m 7 #[sr a1, si (3 : Int32), sr a2] [(.ref a1), (.ref a2)])) (fun t k => XS.aloadN X1.here hx rfl (hb hby d34_5) rfl rfl (XS.aloadN X1.here hx rfl (hb hby d34_6) rfl rfl k)) ?_
  obtain ⟨T2, X2, e2, st2⟩ := getF X1 hx hZ hown (host := "") (Or.inl (Wd hw 173 rfl)) Via.refl e1 Fb (g := (mkF m 7 #[sr a1, si (3 : Int32), sr a2] [(.ref a1), (.ref a2)])) rfl rfl (hb hby d34_7)
  refine Goes.via (next := T2.setTop (mkF m 10 #[sr a1, si (3 : Int32), sr a2] [(.ref tb), (.ref a2)])) st2 ?_
  refine Goes.via (next := T2.setTop (mkF m 12 #[sr a1, si (3 : Int32), sr a2] [(.ref a1), (.int (3 : Int32)), (.ref tb), (.ref a2)])) (fun t k => XS.iloadN X2.here hx rfl (hb hby d34_10) rfl (XS.aloadN X2.here hx rfl (hb hby d34_11) rfl rfl k)) ?_
  obtain ⟨T3, X3, e3, st3⟩ := getF X2 hx hZ hown (host := "") (Or.inl (Wd hw 175 rfl)) Via.refl e2 Cb (g := (mkF m 12 #[sr a1, si (3 : Int32), sr a2] [(.ref a1), (.int (3 : Int32)), (.ref tb), (.ref a2)])) rfl rfl (hb hby d34_12)
  refine Goes.via (next := T3.setTop (mkF m 15 #[sr a1, si (3 : Int32), sr a2] [(.int (0 : Int32)), (.int (3 : Int32)), (.ref tb), (.ref a2)])) st3 ?_
  obtain ⟨Lw4, X4w, N4w⟩ := ownPack X3 N1
  obtain ⟨cq5, kq5, q5a, q5b, q5c⟩ := isOf hZ e3 Es
  obtain ⟨_, _, ⟨T5, L5, k5, n5⟩, -, X5, ⟨Lc5, hQ5, l5, y5, z5⟩, st5⟩ := X4w.virtualBack hx (y := (⟨"java/lang/String", "getBytes", "([BIB)V"⟩ : MethodName)) (z := (⟨"java/lang/String", "getBytes", "([BIB)V"⟩ : MethodName)) hown (mvT hZ (Wd hw 216 rfl)) (mvT hZ (Wd hw 217 rfl)) (notFace_of_selects (args := #[]) (mvT hZ (Wd hw 219 rfl))) (mvT hZ (Wd hw 219 rfl)) (mvT hZ (Wd hw 218 rfl)) (by decide) (backOf (W := 0) (rm36_3 l Z a0 hw [] a2 tb ts ks kb y0 y1 y2 x0 w0 rE rL eL kL nZ h0 n0 Z0 Es Cs Fs Vs Vb gb nes ne2 O0 hz St) hZ (Wd hw 220 rfl) (Wd hw 6 rfl) (by decide) (by decide)) q5a q5c (g := (mkF m 15 #[sr a1, si (3 : Int32), sr a2] [(.int (0 : Int32)), (.int (3 : Int32)), (.ref tb), (.ref a2)])) rfl (by rw [hml]; rfl) (Steps.refl _) (argsL := [(.ref tb), (.int (3 : Int32)), (.int (0 : Int32))]) (rest := []) (lenOf pd_15 rfl) rfl (by show 2 * 0 + _ ≤ _; exact Nat.le_of_eq rfl) (hb hby d34_15) (fun _ _ => ⟨rfl, e3, (by decide : 0 + 0 ≤ _), (by decide : 0 + 0 ≤ _)⟩)
  dsimp only [Pt.U, Pt.locs, Pt.cells, Pt.slots] at X5 l5 y5 z5 st5 hQ5
  subst l5 y5 z5
  obtain ⟨rfl, N5q, Kc5, Vc5⟩ := hQ5
  have F5_21 := Eb.keep Kc5
  have F5_22 := Fb.keep Kc5 (fun q => neb (List.mem_singleton.mp q))
  have F5_23 := Cb.keep Kc5 (fun q => neb (List.mem_singleton.mp q))
  have F5_24 := Nb.keep Kc5 (fun q => neb (List.mem_singleton.mp q))
  have F5_25 := Es.keep Kc5
  have F5_26 := Cs.keep Kc5 (fun q => ne2 (List.mem_singleton.mp q))
  have F5_27 := Fs.keep Kc5 (fun q => ne2 (List.mem_singleton.mp q))
  have F5_28 := Vs.keep Kc5 (fun q => nes (List.mem_singleton.mp q))
  have K5 : Keep h0 T5.heap [tb] := (Keep.refl h0 [tb]).trans Kc5 (fun x hx => by cases List.mem_singleton.mp hx; exact Or.inl (List.mem_of_getElem? (i := 0) rfl))
  have Z5 : n0 ≤ T5.heap.size := Nat.le_trans Z0 Kc5.1
  have O5 := O0.keep Kc5 (fun x hx => by cases List.mem_singleton.mp hx; exact (Nat.le_trans hz gb))
  have N5 := Fr.app N4w N5q
  refine Goes.via (next := T5.setTop (mkF m 18 #[sr a1, si (3 : Int32), sr a2] [])) (fun t k => st5.trans k) ?_
  obtain ⟨fs, hr, hrun, hended, hW, hsame⟩ := X5.leave (v := none) (fun _ => rfl)
  refine ⟨_, _, ?_, hrun, hended, _, _, rfl, ?_, ⟨_, rfl⟩, hW, hsame.mono (by decide) (by decide)⟩
  · exact X5.returnOut hx Bd.returns (hb hby d34_18) hr
  · show Q34_3 Z tb kb y0 y1 y2 x0 h0 n0 _ T5.heap _
    exact ⟨rfl, N5, K5, Vc5⟩
theorem ef_30_3 (m : MethodId) (x0 : Addr) (x1 : Addr) : entryFrame m #[(.ref x0), (.ref x1)] 3 = mkF m 0 #[.val (.ref x0), .val (.ref x1), .unset] [] := by first | (simp [entryFrame, mkF, argsToLocals, Value.category]; done) | rfl
def Q30_3 (Z : State) (a1 tb : Addr) (kb : ClassId) (y0 y1 y2 x0 : Int32) (h0 : Heap) (n0 : Nat) (v : Option Value) (h : Heap) (L : List Loc) : Prop := v = some (.ref a1) ∧ Fr n0 L ∧ Keep h0 h [a1, tb] ∧ Exa Z h a1 "java/lang/StringBuilder" ∧ Fld Z h a1 "java/lang/AbstractStringBuilder" "value" "[B" (.ref tb) ∧ Fld Z h a1 "java/lang/AbstractStringBuilder" "coder" "B" (.int (0 : Int32)) ∧ Fld Z h a1 "java/lang/AbstractStringBuilder" "count" "I" (.int (4 : Int32)) ∧ Arv Z h tb kb .byte (16 : Int32) [(.int y0), (.int y1), (.int y2), (.int x0), (.int (0 : Int32)), (.int (0 : Int32)), (.int (0 : Int32)), (.int (0 : Int32)), (.int (0 : Int32)), (.int (0 : Int32)), (.int (0 : Int32)), (.int (0 : Int32)), (.int (0 : Int32)), (.int (0 : Int32)), (.int (0 : Int32)), (.int (0 : Int32))] (.int (0 : Int32))
set_option maxRecDepth 65536 in
set_option maxHeartbeats 40000000 in
theorem rm30_3 (l : Launch) (Z : State) (a0 : Array Value) (hw : ∀ d ∈ tables_1, d.before a0 Z = true) (ws : List Jvm.Cond) (a1 : Addr) (a2 : Addr) (tb ts : Addr) (kb ks : ClassId) (y0 y1 y2 x0 : Int32) (w0 : Int32) (rE rL eL : Addr) (kL : ClassId) (nZ : Nat) (h0 : Heap) (n0 : Nat) (Z0 : n0 ≤ h0.size) (Eb : Exa Z h0 a1 "java/lang/StringBuilder") (Fb : Fld Z h0 a1 "java/lang/AbstractStringBuilder" "value" "[B" (.ref tb)) (Cb : Fld Z h0 a1 "java/lang/AbstractStringBuilder" "coder" "B" (.int (0 : Int32))) (Nb : Fld Z h0 a1 "java/lang/AbstractStringBuilder" "count" "I" (.int (3 : Int32))) (Vb : Arv Z h0 tb kb .byte (16 : Int32) [(.int y0), (.int y1), (.int y2), (.int (0 : Int32)), (.int (0 : Int32)), (.int (0 : Int32)), (.int (0 : Int32)), (.int (0 : Int32)), (.int (0 : Int32)), (.int (0 : Int32)), (.int (0 : Int32)), (.int (0 : Int32)), (.int (0 : Int32)), (.int (0 : Int32)), (.int (0 : Int32)), (.int (0 : Int32))] (.int (0 : Int32))) (gb : n0 ≤ tb) (Es : Exa Z h0 a2 "java/lang/String") (Cs : Fld Z h0 a2 "java/lang/String" "coder" "B" (.int (0 : Int32))) (Fs : Fld Z h0 a2 "java/lang/String" "value" "[B" (.ref ts)) (Vs : Arv Z h0 ts ks .byte (1 : Int32) [(.int x0)] (.int (0 : Int32))) (nes : ts ≠ tb) (ne2 : a2 ≠ tb) (neb : a1 ≠ tb) (g1 : n0 ≤ a1) (O0 : Old Z nZ h0) (hz : nZ ≤ n0) (St : own_St Z w0 rE rL eL kL) :
    MF l (⟨"java/lang/AbstractStringBuilder", "append", "(Ljava/lang/String;)Ljava/lang/AbstractStringBuilder;"⟩ : MethodName) jdk_68_method_22_code 3 (some (.object "java/lang/AbstractStringBuilder")) ws ({ frames := 3, cells := 0, slots := 0, locals := 47 } : Room) #[(.ref a1), (.ref a2)] Z h0 (Q30_3 Z a1 tb kb y0 y1 y2 x0 h0 n0) := by
  refine MetFree.of_bodySF (plainFor_of_name pn_13) hisR ?_
  intro p e s m args below meth c s₁ Bd hml0 hP hK
  obtain ⟨rfl, hZ, hh⟩ := hP
  have hx := Bd.exec
  have hby := Bd.bytes
  have hml : c.maxLocals = 3 := hml0
  have hown : s.vm.findClass "java/lang/AbstractStringBuilder" = some m.cls := findClass_of_methodNamed Bd.named
  have hnm := (name_of_methodNamed Bd.named Bd.method).1
  have X0 : Stand p l e ({ frames := 3, cells := 0, slots := 0, locals := 47 } : Room) s m #[(.ref a1), (.ref a2)] below meth c s₁ [] 0 0 := Stand.of_body Bd
  have e0 : s₁.heap = h0 := by rw [← hh, Bd.state]; rfl
  have N0 := Fr.nil n0
  refine Goes.via (next := s₁.setTop (mkF m 0 #[.val (.ref a1), .val (.ref a2), .unset] [])) (fun t k => castTop (ef_30_3 m a1 a2) k) ?_
  refine Goes.via (next := s₁.setTop (mkF m 1 #[sr a1, sr a2, .unset] [(.ref a2)])) (fun t k => XS.aloadN X0.here hx rfl (hb hby d30_0) rfl rfl k) ?_
  refine Goes.via (next := s₁.setTop (mkF m 9 #[sr a1, sr a2, .unset] [])) (fun t k => XS.ifnonnullYes X0.here hx rfl (pc0 := 1) (pc' := 9) rfl (hb hby d30_1) rfl (by decide) (by decide) k) ?_
  refine Goes.via (next := s₁.setTop (mkF m 10 #[sr a1, sr a2, .unset] [(.ref a2)])) (fun t k => XS.aloadN X0.here hx rfl (hb hby d30_9) rfl rfl k) ?_
  obtain ⟨cq1, kq1, q1a, q1b, q1c⟩ := isOf hZ e0 Es
  obtain ⟨_, _, ⟨T1, L1, k1, n1⟩, -, X1, ⟨Lc1, hQ1, l1, y1, z1⟩, st1⟩ := X0.virtualBack hx (y := (⟨"java/lang/String", "length", "()I"⟩ : MethodName)) (z := (⟨"java/lang/String", "length", "()I"⟩ : MethodName)) hown (mvT hZ (Wd hw 188 rfl)) (mvT hZ (Wd hw 189 rfl)) (notFace_of_selects (args := #[]) (mvT hZ (Wd hw 191 rfl))) (mvT hZ (Wd hw 191 rfl)) (mvT hZ (Wd hw 190 rfl)) (by decide) (backOf (W := 0) (rm31_1 l Z a0 hw [] a2 ts ks _ w0 rE rL eL kL nZ h0 n0 Z0 Es Fs Cs Vs O0 hz St) hZ (Wd hw 192 rfl) (Wd hw 6 rfl) (by decide) (by decide)) q1a q1c (g := (mkF m 10 #[sr a1, sr a2, .unset] [(.ref a2)])) rfl (by rw [hml]; rfl) (Steps.refl _) (argsL := []) (rest := []) (lenOf pd_16 rfl) rfl (by show 2 * 0 + _ ≤ _; exact Nat.le_of_eq rfl) (hb hby d30_10) (fun _ _ => ⟨rfl, e0, (by decide : 0 + 0 ≤ _), (by decide : 0 + 0 ≤ _)⟩)
  dsimp only [Pt.U, Pt.locs, Pt.cells, Pt.slots] at X1 l1 y1 z1 st1 hQ1
  subst l1 y1 z1
  obtain ⟨rfl, N1q, er1⟩ := hQ1
  have e1 : T1.heap = h0 := er1
  have N1 := Fr.app N0 N1q
  refine Goes.via (next := T1.setTop (mkF m 13 #[sr a1, sr a2, .unset] [(.int (1 : Int32))])) (fun t k => st1.trans k) ?_
  refine Goes.via (next := T1.setTop (mkF m 16 #[sr a1, sr a2, si (1 : Int32)] [(.ref a1), (.ref a1)])) (fun t k => XS.istoreN X1.here hx rfl (hb hby d30_13) rfl (l' := #[sr a1, sr a2, si (1 : Int32)]) rfl (XS.aloadN X1.here hx rfl (hb hby d30_14) rfl rfl (XS.aloadN X1.here hx rfl (hb hby d30_15) rfl rfl k))) ?_
  obtain ⟨T2, X2, e2, st2⟩ := getF X1 hx hZ hown (host := "") (Or.inl (Wd hw 198 rfl)) Via.refl e1 Nb (g := (mkF m 16 #[sr a1, sr a2, si (1 : Int32)] [(.ref a1), (.ref a1)])) rfl rfl (hb hby d30_16)
  refine Goes.via (next := T2.setTop (mkF m 19 #[sr a1, sr a2, si (1 : Int32)] [(.int (3 : Int32)), (.ref a1)])) st2 ?_
  refine Goes.via (next := T2.setTop (mkF m 21 #[sr a1, sr a2, si (1 : Int32)] [(.int (4 : Int32)), (.ref a1)])) (fun t k => XS.iloadN X2.here hx rfl (hb hby d30_19) rfl (XS.iadd X2.here hx rfl (hb hby d30_20) rfl k)) ?_
  obtain ⟨Lw3, X3w, N3w⟩ := ownPack X2 N1
  obtain ⟨cx4, hcx4, hox4⟩ := (Ins.self Eb).cell
  obtain ⟨_, _, ⟨T4, L4, k4, n4⟩, -, X4, ⟨Lc4, hQ4, l4, y4, z4⟩, st4⟩ := X3w.privateBack hx (y := (⟨"java/lang/AbstractStringBuilder", "ensureCapacityInternal", "(I)V"⟩ : MethodName)) hown (mvT hZ (Wd hw 200 rfl)) (mvT hZ (Wd hw 201 rfl)) (ownSelP (mvT hZ (Wd hw 203 rfl)) (mvT hZ (Wd hw 202 rfl)) (mvT hZ (Wd hw 201 rfl)) (by decide)) (Cond.privateMethod_at (args := #[]) (mvT hZ (Wd hw 202 rfl))) (mvT hZ (Wd hw 204 rfl)) (by decide) (backOf (W := 0) (rm33_3 l Z a0 hw [] a1 tb kb y0 y1 y2 (0 : Int32) h0 n0 Z0 Fb Cb Vb) hZ (Wd hw 204 rfl) (Wd hw 169 rfl) (by decide) (by decide)) (g := (mkF m 21 #[sr a1, sr a2, si (1 : Int32)] [(.int (4 : Int32)), (.ref a1)])) rfl (by rw [hml]; rfl) (Steps.refl _) (cell := cx4) (by rw [e2]; exact hcx4) hox4 (argsL := [(.int (4 : Int32))]) (rest := []) (lenOf pd_13 rfl) rfl (by show 2 * 0 + _ ≤ _; exact Nat.le_of_eq rfl) (hb hby d30_21) (fun _ _ => ⟨rfl, e2, (by decide : 0 + 0 ≤ _), (by decide : 0 + 0 ≤ _)⟩)
  dsimp only [Pt.U, Pt.locs, Pt.cells, Pt.slots] at X4 l4 y4 z4 st4 hQ4
  subst l4 y4 z4
  obtain ⟨rfl, N4q, er4⟩ := hQ4
  have e4 : T4.heap = h0 := er4
  have N4 := Fr.app N3w N4q
  refine Goes.via (next := T4.setTop (mkF m 24 #[sr a1, sr a2, si (1 : Int32)] [])) (fun t k => st4.trans k) ?_
  refine Goes.via (next := T4.setTop (mkF m 26 #[sr a1, sr a2, si (1 : Int32)] [(.ref a1), (.ref a1)])) (fun t k => XS.aloadN X4.here hx rfl (hb hby d30_24) rfl rfl (XS.aloadN X4.here hx rfl (hb hby d30_25) rfl rfl k)) ?_
  obtain ⟨T5, X5, e5, st5⟩ := getF X4 hx hZ hown (host := "") (Or.inl (Wd hw 198 rfl)) Via.refl e4 Nb (g := (mkF m 26 #[sr a1, sr a2, si (1 : Int32)] [(.ref a1), (.ref a1)])) rfl rfl (hb hby d30_26)
  refine Goes.via (next := T5.setTop (mkF m 29 #[sr a1, sr a2, si (1 : Int32)] [(.int (3 : Int32)), (.ref a1)])) st5 ?_
  refine Goes.via (next := T5.setTop (mkF m 30 #[sr a1, sr a2, si (1 : Int32)] [(.ref a2), (.int (3 : Int32)), (.ref a1)])) (fun t k => XS.aloadN X5.here hx rfl (hb hby d30_29) rfl rfl k) ?_
  obtain ⟨Lw6, X6w, N6w⟩ := ownPack X5 N4
  obtain ⟨cx7, hcx7, hox7⟩ := (Ins.self Eb).cell
  obtain ⟨_, _, ⟨T7, L7, k7, n7⟩, -, X7, ⟨Lc7, hQ7, l7, y7, z7⟩, st7⟩ := X6w.privateBack hx (y := (⟨"java/lang/AbstractStringBuilder", "putStringAt", "(ILjava/lang/String;)V"⟩ : MethodName)) hown (mvT hZ (Wd hw 205 rfl)) (mvT hZ (Wd hw 206 rfl)) (ownSelP (mvT hZ (Wd hw 208 rfl)) (mvT hZ (Wd hw 207 rfl)) (mvT hZ (Wd hw 206 rfl)) (by decide)) (Cond.privateMethod_at (args := #[]) (mvT hZ (Wd hw 207 rfl))) (mvT hZ (Wd hw 209 rfl)) (by decide) (backOf (W := 0) (rm34_3 l Z a0 hw [] a1 a2 tb ts kb ks y0 y1 y2 x0 w0 rE rL eL kL nZ h0 n0 Z0 Eb Fb Cb Nb Vb gb Es Cs Fs Vs nes ne2 neb O0 hz St) hZ (Wd hw 209 rfl) (Wd hw 169 rfl) (by decide) (by decide)) (g := (mkF m 30 #[sr a1, sr a2, si (1 : Int32)] [(.ref a2), (.int (3 : Int32)), (.ref a1)])) rfl (by rw [hml]; rfl) (Steps.refl _) (cell := cx7) (by rw [e5]; exact hcx7) hox7 (argsL := [(.int (3 : Int32)), (.ref a2)]) (rest := []) (lenOf pd_17 rfl) rfl (by show 2 * 0 + _ ≤ _; exact Nat.le_of_eq rfl) (hb hby d30_30) (fun _ _ => ⟨rfl, e5, (by decide : 0 + 0 ≤ _), (by decide : 0 + 0 ≤ _)⟩)
  dsimp only [Pt.U, Pt.locs, Pt.cells, Pt.slots] at X7 l7 y7 z7 st7 hQ7
  subst l7 y7 z7
  obtain ⟨rfl, N7q, Kc7, Vc7⟩ := hQ7
  have F7_34 := Eb.keep Kc7
  have F7_35 := Fb.keep Kc7 (fun q => neb (List.mem_singleton.mp q))
  have F7_36 := Cb.keep Kc7 (fun q => neb (List.mem_singleton.mp q))
  have F7_37 := Nb.keep Kc7 (fun q => neb (List.mem_singleton.mp q))
  have F7_38 := Es.keep Kc7
  have F7_39 := Cs.keep Kc7 (fun q => ne2 (List.mem_singleton.mp q))
  have F7_40 := Fs.keep Kc7 (fun q => ne2 (List.mem_singleton.mp q))
  have F7_41 := Vs.keep Kc7 (fun q => nes (List.mem_singleton.mp q))
  have K7 : Keep h0 T7.heap [a1, tb] := (Keep.refl h0 [a1, tb]).trans Kc7 (fun x hx => by cases List.mem_singleton.mp hx; exact Or.inl (List.mem_of_getElem? (i := 1) rfl))
  have Z7 : n0 ≤ T7.heap.size := Nat.le_trans Z0 Kc7.1
  have O7 := O0.keep Kc7 (fun x hx => by cases List.mem_singleton.mp hx; exact (Nat.le_trans hz gb))
  have N7 := Fr.app N6w N7q
  refine Goes.via (next := T7.setTop (mkF m 33 #[sr a1, sr a2, si (1 : Int32)] [])) (fun t k => st7.trans k) ?_
  refine Goes.via (next := T7.setTop (mkF m 35 #[sr a1, sr a2, si (1 : Int32)] [(.ref a1), (.ref a1)])) (fun t k => XS.aloadN X7.here hx rfl (hb hby d30_33) rfl rfl (XS.dup X7.here hx rfl (hb hby d30_34) rfl rfl k)) ?_
  obtain ⟨T8, X8, e8, st8⟩ := getF X7 hx hZ hown (host := "") (Or.inl (Wd hw 198 rfl)) Via.refl rfl F7_37 (g := (mkF m 35 #[sr a1, sr a2, si (1 : Int32)] [(.ref a1), (.ref a1)])) rfl rfl (hb hby d30_35)
  refine Goes.via (next := T8.setTop (mkF m 38 #[sr a1, sr a2, si (1 : Int32)] [(.int (3 : Int32)), (.ref a1)])) st8 ?_
  refine Goes.via (next := T8.setTop (mkF m 40 #[sr a1, sr a2, si (1 : Int32)] [(.int (4 : Int32)), (.ref a1)])) (fun t k => XS.iloadN X8.here hx rfl (hb hby d30_38) rfl (XS.iadd X8.here hx rfl (hb hby d30_39) rfl k)) ?_
  obtain ⟨T9, h9, X9, e9, W9, st9⟩ := putF X8 hx hZ hown (host := "") (Or.inl (Wd hw 198 rfl)) Via.refl e8 F7_37 F7_34 (Or.inl (Wd hw 199 rfl)) (Wd hw 160 rfl) (ty := .int) (by decide) rfl rfl (g := (mkF m 40 #[sr a1, sr a2, si (1 : Int32)] [(.int (4 : Int32)), (.ref a1)])) rfl rfl (hb hby d30_40)
  have Fw9 := F7_37.same W9
  have F9_53 := F7_34.wr W9
  have F9_54 := F7_35.other W9 (Or.inr (slot_ne (Or.inl (Wd hw 174 rfl)) (Or.inl (Wd hw 199 rfl)) (by decide) (t := (.array .byte)) (t' := .int) (by decide) (by decide)))
  have F9_55 := F7_36.other W9 (Or.inr (slot_ne (Or.inl (Wd hw 176 rfl)) (Or.inl (Wd hw 199 rfl)) (by decide) (t := .byte) (t' := .int) (by decide) (by decide)))
  have F9_56 := Vc7.other W9 (Ne.symm neb)
  have K9 : Keep h0 h9 [a1, tb] := K7.wr W9 (Or.inl (List.mem_of_getElem? (i := 0) rfl))
  have Z9 : n0 ≤ h9.size := Nat.le_trans Z7 (Keep.of_wr W9).1
  have N9 := Fr.snoc X9 N7 g1
  have O9 := O7.wr W9 (Nat.le_trans hz g1)
  refine Goes.via (next := T9.setTop (mkF m 43 #[sr a1, sr a2, si (1 : Int32)] [])) st9 ?_
  refine Goes.via (next := T9.setTop (mkF m 44 #[sr a1, sr a2, si (1 : Int32)] [(.ref a1)])) (fun t k => XS.aloadN X9.here hx rfl (hb hby d30_43) rfl rfl k) ?_
  obtain ⟨fs, hr, hrun, hended, hW, hsame⟩ := X9.leave (v := some (.ref a1)) (fun h => by rw [Bd.returns] at h; cases h)
  refine ⟨_, _, ?_, hrun, hended, _, _, rfl, ?_, ⟨_, rfl⟩, hW, hsame.mono (by decide) (by decide)⟩
  · exact retOut X9 hx (t := (.object "java/lang/AbstractStringBuilder")) Bd.returns rfl (Or.inr (Or.inr (Or.inr (Or.inr ⟨rfl, rfl, rfl⟩)))) (hb hby d30_44) hr
  · show Q30_3 Z a1 tb kb y0 y1 y2 x0 h0 n0 _ T9.heap _
    rw [e9]
    exact ⟨rfl, N9, K9, F9_53, F9_54, F9_55, Fw9, F9_56⟩
theorem ef_29_3 (m : MethodId) (x0 : Addr) (x1 : Addr) : entryFrame m #[(.ref x0), (.ref x1)] 2 = mkF m 0 #[.val (.ref x0), .val (.ref x1)] [] := by first | (simp [entryFrame, mkF, argsToLocals, Value.category]; done) | rfl
def Q29_3 (Z : State) (a1 tb : Addr) (kb : ClassId) (y0 y1 y2 x0 : Int32) (h0 : Heap) (n0 : Nat) (v : Option Value) (h : Heap) (L : List Loc) : Prop := v = some (.ref a1) ∧ Fr n0 L ∧ Keep h0 h [a1, tb] ∧ Exa Z h a1 "java/lang/StringBuilder" ∧ Fld Z h a1 "java/lang/AbstractStringBuilder" "value" "[B" (.ref tb) ∧ Fld Z h a1 "java/lang/AbstractStringBuilder" "coder" "B" (.int (0 : Int32)) ∧ Fld Z h a1 "java/lang/AbstractStringBuilder" "count" "I" (.int (4 : Int32)) ∧ Arv Z h tb kb .byte (16 : Int32) [(.int y0), (.int y1), (.int y2), (.int x0), (.int (0 : Int32)), (.int (0 : Int32)), (.int (0 : Int32)), (.int (0 : Int32)), (.int (0 : Int32)), (.int (0 : Int32)), (.int (0 : Int32)), (.int (0 : Int32)), (.int (0 : Int32)), (.int (0 : Int32)), (.int (0 : Int32)), (.int (0 : Int32))] (.int (0 : Int32))
set_option maxRecDepth 65536 in
set_option maxHeartbeats 40000000 in
theorem rm29_3 (l : Launch) (Z : State) (a0 : Array Value) (hw : ∀ d ∈ tables_1, d.before a0 Z = true) (ws : List Jvm.Cond) (a1 : Addr) (a2 : Addr) (tb ts : Addr) (kb ks : ClassId) (y0 y1 y2 x0 : Int32) (w0 : Int32) (rE rL eL : Addr) (kL : ClassId) (nZ : Nat) (h0 : Heap) (n0 : Nat) (Z0 : n0 ≤ h0.size) (Eb : Exa Z h0 a1 "java/lang/StringBuilder") (Fb : Fld Z h0 a1 "java/lang/AbstractStringBuilder" "value" "[B" (.ref tb)) (Cb : Fld Z h0 a1 "java/lang/AbstractStringBuilder" "coder" "B" (.int (0 : Int32))) (Nb : Fld Z h0 a1 "java/lang/AbstractStringBuilder" "count" "I" (.int (3 : Int32))) (Vb : Arv Z h0 tb kb .byte (16 : Int32) [(.int y0), (.int y1), (.int y2), (.int (0 : Int32)), (.int (0 : Int32)), (.int (0 : Int32)), (.int (0 : Int32)), (.int (0 : Int32)), (.int (0 : Int32)), (.int (0 : Int32)), (.int (0 : Int32)), (.int (0 : Int32)), (.int (0 : Int32)), (.int (0 : Int32)), (.int (0 : Int32)), (.int (0 : Int32))] (.int (0 : Int32))) (gb : n0 ≤ tb) (Es : Exa Z h0 a2 "java/lang/String") (Cs : Fld Z h0 a2 "java/lang/String" "coder" "B" (.int (0 : Int32))) (Fs : Fld Z h0 a2 "java/lang/String" "value" "[B" (.ref ts)) (Vs : Arv Z h0 ts ks .byte (1 : Int32) [(.int x0)] (.int (0 : Int32))) (nes : ts ≠ tb) (ne2 : a2 ≠ tb) (neb : a1 ≠ tb) (g1 : n0 ≤ a1) (n21 : a2 ≠ a1) (ns1 : ts ≠ a1) (O0 : Old Z nZ h0) (hz : nZ ≤ n0) (St : own_St Z w0 rE rL eL kL) :
    MF l (⟨"java/lang/StringBuilder", "append", "(Ljava/lang/String;)Ljava/lang/StringBuilder;"⟩ : MethodName) jdk_67_method_7_code 2 (some (.object "java/lang/StringBuilder")) ws ({ frames := 4, cells := 0, slots := 0, locals := 61 } : Room) #[(.ref a1), (.ref a2)] Z h0 (Q29_3 Z a1 tb kb y0 y1 y2 x0 h0 n0) := by
  refine MetFree.of_bodySF (plainFor_of_name pn_14) hisR ?_
  intro p e s m args below meth c s₁ Bd hml0 hP hK
  obtain ⟨rfl, hZ, hh⟩ := hP
  have hx := Bd.exec
  have hby := Bd.bytes
  have hml : c.maxLocals = 2 := hml0
  have hown : s.vm.findClass "java/lang/StringBuilder" = some m.cls := findClass_of_methodNamed Bd.named
  have hnm := (name_of_methodNamed Bd.named Bd.method).1
  have X0 : Stand p l e ({ frames := 4, cells := 0, slots := 0, locals := 61 } : Room) s m #[(.ref a1), (.ref a2)] below meth c s₁ [] 0 0 := Stand.of_body Bd
  have e0 : s₁.heap = h0 := by rw [← hh, Bd.state]; rfl
  have N0 := Fr.nil n0
  refine Goes.via (next := s₁.setTop (mkF m 0 #[.val (.ref a1), .val (.ref a2)] [])) (fun t k => castTop (ef_29_3 m a1 a2) k) ?_
  refine Goes.via (next := s₁.setTop (mkF m 2 #[sr a1, sr a2] [(.ref a2), (.ref a1)])) (fun t k => XS.aloadN X0.here hx rfl (hb hby d29_0) rfl rfl (XS.aloadN X0.here hx rfl (hb hby d29_1) rfl rfl k)) ?_
  obtain ⟨_, _, ⟨T1, L1, k1, n1⟩, -, X1, ⟨Lc1, hQ1, l1, y1, z1⟩, st1⟩ := superBack X0 hx hZ hown (Wd hw 183 rfl) (ownSameSelf (Wd hw 184 rfl) (Wd hw 203 rfl) rfl (by decide)) (Wd hw 184 rfl) (Wd hw 185 rfl) (by decide) (backOf (W := 0) (rm30_3 l Z a0 hw [] a1 a2 tb ts kb ks y0 y1 y2 x0 w0 rE rL eL kL nZ h0 n0 Z0 Eb Fb Cb Nb Vb gb Es Cs Fs Vs nes ne2 neb g1 O0 hz St) hZ (Wd hw 187 rfl) (Wd hw 169 rfl) (by decide) (by decide)) e0 (Ins.self Eb) (g := (mkF m 2 #[sr a1, sr a2] [(.ref a2), (.ref a1)])) rfl (by rw [hml]; rfl) (Wd hw 187 rfl) (argsL := [(.ref a2)]) (rest := []) (lenOf pd_18 rfl) rfl (by show 2 * 0 + _ ≤ _; exact Nat.le_of_eq rfl) (hb hby d29_2) (fun _ _ => ⟨rfl, e0, (by decide : 0 + 0 ≤ _), (by decide : 0 + 0 ≤ _)⟩)
  dsimp only [Pt.U, Pt.locs, Pt.cells, Pt.slots] at X1 l1 y1 z1 st1 hQ1
  subst l1 y1 z1
  obtain ⟨rfl, N1q, Kc1, Ec1, Fq1, Cq1, Nq1, Vc1⟩ := hQ1
  have F1_5 := Eb.keep Kc1
  have F1_6 := Es.keep Kc1
  have F1_7 := Cs.keep Kc1 (ownNin2 n21 ne2)
  have F1_8 := Fs.keep Kc1 (ownNin2 n21 ne2)
  have F1_9 := Vs.keep Kc1 (ownNin2 ns1 nes)
  have K1 : Keep h0 T1.heap [a1, tb] := (Keep.refl h0 [a1, tb]).trans Kc1 (ownAll2 (P := fun x => x ∈ _ ∨ _ ≤ x) (Or.inl (List.mem_of_getElem? (i := 0) rfl)) (Or.inl (List.mem_of_getElem? (i := 1) rfl)))
  have Z1 : n0 ≤ T1.heap.size := Nat.le_trans Z0 Kc1.1
  have O1 := O0.keep Kc1 (ownAll2 (P := fun x => _ ≤ x) (Nat.le_trans hz g1) (Nat.le_trans hz gb))
  have N1 := Fr.app N0 N1q
  refine Goes.via (next := T1.setTop (mkF m 5 #[sr a1, sr a2] [(.ref a1)])) (fun t k => st1.trans k) ?_
  refine Goes.via (next := T1.setTop (mkF m 7 #[sr a1, sr a2] [(.ref a1)])) (fun t k => XS.pop X1.here hx rfl (hb hby d29_5) rfl rfl (XS.aloadN X1.here hx rfl (hb hby d29_6) rfl rfl k)) ?_
  obtain ⟨fs, hr, hrun, hended, hW, hsame⟩ := X1.leave (v := some (.ref a1)) (fun h => by rw [Bd.returns] at h; cases h)
  refine ⟨_, _, ?_, hrun, hended, _, _, rfl, ?_, ⟨_, rfl⟩, hW, hsame.mono (by decide) (by decide)⟩
  · exact retOut X1 hx (t := (.object "java/lang/StringBuilder")) Bd.returns rfl (Or.inr (Or.inr (Or.inr (Or.inr ⟨rfl, rfl, rfl⟩)))) (hb hby d29_7) hr
  · show Q29_3 Z a1 tb kb y0 y1 y2 x0 h0 n0 _ T1.heap _
    exact ⟨rfl, N1, K1, F1_5, Fq1, Cq1, Nq1, Vc1⟩
theorem d40_0 : decode jdk_68_method_64_code 0 = .ok (.aload_n 0, 1) := by decide +kernel
theorem d40_1 : decode jdk_68_method_64_code 1 = .ok (.getfield 15, 3) := by decide +kernel
theorem d40_4 : decode jdk_68_method_64_code 4 = .ok (.areturn, 1) := by decide +kernel
theorem ef_40 (m : MethodId) (x0 : Addr) : entryFrame m #[(.ref x0)] 1 = mkF m 0 #[.val (.ref x0)] [] := by first | (simp [entryFrame, mkF, argsToLocals, Value.category]; done) | rfl
def Q40 (Z : State) (x1 : Addr) (h0 : Heap) (n0 : Nat) (v : Option Value) (h : Heap) (L : List Loc) : Prop := v = some (.ref x1) ∧ Fr n0 L ∧ h = h0
set_option maxRecDepth 65536 in
set_option maxHeartbeats 40000000 in
theorem rm40 (l : Launch) (Z : State) (a0 : Array Value) (hw : ∀ d ∈ tables_1, d.before a0 Z = true) (ws : List Jvm.Cond) (a1 : Addr) (x1 : Addr) (h0 : Heap) (n0 : Nat) (Z0 : n0 ≤ h0.size) (F1 : Fld Z h0 a1 "java/lang/AbstractStringBuilder" "value" "[B" (.ref x1)) :
    MF l (⟨"java/lang/AbstractStringBuilder", "getValue", "()[B"⟩ : MethodName) jdk_68_method_64_code 1 (some (.array .byte)) ws ({ frames := 0, cells := 0, slots := 0, locals := 0 } : Room) #[(.ref a1)] Z h0 (Q40 Z x1 h0 n0) := by
  refine MetFree.of_bodySF (plainFor_of_name pn_13) hisR ?_
  intro p e s m args below meth c s₁ Bd hml0 hP hK
  obtain ⟨rfl, hZ, hh⟩ := hP
  have hx := Bd.exec
  have hby := Bd.bytes
  have hml : c.maxLocals = 1 := hml0
  have hown : s.vm.findClass "java/lang/AbstractStringBuilder" = some m.cls := findClass_of_methodNamed Bd.named
  have hnm := (name_of_methodNamed Bd.named Bd.method).1
  have X0 : Stand p l e ({ frames := 0, cells := 0, slots := 0, locals := 0 } : Room) s m #[(.ref a1)] below meth c s₁ [] 0 0 := Stand.of_body Bd
  have e0 : s₁.heap = h0 := by rw [← hh, Bd.state]; rfl
  have N0 := Fr.nil n0
  refine Goes.via (next := s₁.setTop (mkF m 0 #[.val (.ref a1)] [])) (fun t k => castTop (ef_40 m a1) k) ?_
  refine Goes.via (next := s₁.setTop (mkF m 1 #[sr a1] [(.ref a1)])) (fun t k => XS.aloadN X0.here hx rfl (hb hby d40_0) rfl rfl k) ?_
  obtain ⟨T1, X1, e1, st1⟩ := getF X0 hx hZ hown (host := "") (Or.inl (Wd hw 173 rfl)) Via.refl e0 F1 (g := (mkF m 1 #[sr a1] [(.ref a1)])) rfl rfl (hb hby d40_1)
  refine Goes.via (next := T1.setTop (mkF m 4 #[sr a1] [(.ref x1)])) st1 ?_
  obtain ⟨fs, hr, hrun, hended, hW, hsame⟩ := X1.leave (v := some (.ref x1)) (fun h => by rw [Bd.returns] at h; cases h)
  refine ⟨_, _, ?_, hrun, hended, _, _, rfl, ?_, ⟨_, rfl⟩, hW, hsame.mono (by decide) (by decide)⟩
  · exact retOut X1 hx (t := (.array .byte)) Bd.returns rfl (Or.inr (Or.inr (Or.inr (Or.inr ⟨rfl, rfl, rfl⟩)))) (hb hby d40_4) hr
  · show Q40 Z x1 h0 n0 _ T1.heap _
    rw [e1]
    exact ⟨rfl, N0, rfl⟩
theorem d42_0 : decode jdk_68_method_6_code 0 = .ok (.aload_n 0, 1) := by decide +kernel
theorem d42_1 : decode jdk_68_method_6_code 1 = .ok (.getfield 79, 3) := by decide +kernel
theorem d42_4 : decode jdk_68_method_6_code 4 = .ok (.ireturn, 1) := by decide +kernel
theorem ef_42 (m : MethodId) (x0 : Addr) : entryFrame m #[(.ref x0)] 1 = mkF m 0 #[.val (.ref x0)] [] := by first | (simp [entryFrame, mkF, argsToLocals, Value.category]; done) | rfl
def Q42 (Z : State) (x1 : Int32) (h0 : Heap) (n0 : Nat) (v : Option Value) (h : Heap) (L : List Loc) : Prop := v = some (.int x1) ∧ Fr n0 L ∧ h = h0
set_option maxRecDepth 65536 in
set_option maxHeartbeats 40000000 in
theorem rm42 (l : Launch) (Z : State) (a0 : Array Value) (hw : ∀ d ∈ tables_1, d.before a0 Z = true) (ws : List Jvm.Cond) (a1 : Addr) (x1 : Int32) (h0 : Heap) (n0 : Nat) (Z0 : n0 ≤ h0.size) (F1 : Fld Z h0 a1 "java/lang/AbstractStringBuilder" "count" "I" (.int x1)) :
    MF l (⟨"java/lang/AbstractStringBuilder", "length", "()I"⟩ : MethodName) jdk_68_method_6_code 1 (some .int) ws ({ frames := 0, cells := 0, slots := 0, locals := 0 } : Room) #[(.ref a1)] Z h0 (Q42 Z x1 h0 n0) := by
  refine MetFree.of_bodySF (plainFor_of_name pn_13) hisR ?_
  intro p e s m args below meth c s₁ Bd hml0 hP hK
  obtain ⟨rfl, hZ, hh⟩ := hP
  have hx := Bd.exec
  have hby := Bd.bytes
  have hml : c.maxLocals = 1 := hml0
  have hown : s.vm.findClass "java/lang/AbstractStringBuilder" = some m.cls := findClass_of_methodNamed Bd.named
  have hnm := (name_of_methodNamed Bd.named Bd.method).1
  have X0 : Stand p l e ({ frames := 0, cells := 0, slots := 0, locals := 0 } : Room) s m #[(.ref a1)] below meth c s₁ [] 0 0 := Stand.of_body Bd
  have e0 : s₁.heap = h0 := by rw [← hh, Bd.state]; rfl
  have N0 := Fr.nil n0
  refine Goes.via (next := s₁.setTop (mkF m 0 #[.val (.ref a1)] [])) (fun t k => castTop (ef_42 m a1) k) ?_
  refine Goes.via (next := s₁.setTop (mkF m 1 #[sr a1] [(.ref a1)])) (fun t k => XS.aloadN X0.here hx rfl (hb hby d42_0) rfl rfl k) ?_
  obtain ⟨T1, X1, e1, st1⟩ := getF X0 hx hZ hown (host := "") (Or.inl (Wd hw 198 rfl)) Via.refl e0 F1 (g := (mkF m 1 #[sr a1] [(.ref a1)])) rfl rfl (hb hby d42_1)
  refine Goes.via (next := T1.setTop (mkF m 4 #[sr a1] [(.int x1)])) st1 ?_
  obtain ⟨fs, hr, hrun, hended, hW, hsame⟩ := X1.leave (v := some (.int x1)) (fun h => by rw [Bd.returns] at h; cases h)
  refine ⟨_, _, ?_, hrun, hended, _, _, rfl, ?_, ⟨_, rfl⟩, hW, hsame.mono (by decide) (by decide)⟩
  · exact retI X1 hx Bd.returns (hb hby d42_4) hr
  · show Q42 Z x1 h0 n0 _ T1.heap _
    rw [e1]
    exact ⟨rfl, N0, rfl⟩
theorem d41_0 : decode jdk_67_method_93_code 0 = .ok (.aload_n 0, 1) := by decide +kernel
theorem d41_1 : decode jdk_67_method_93_code 1 = .ok (.invokespecial 343, 3) := by decide +kernel
theorem d41_4 : decode jdk_67_method_93_code 4 = .ok (.ireturn, 1) := by decide +kernel
theorem ef_41 (m : MethodId) (x0 : Addr) : entryFrame m #[(.ref x0)] 1 = mkF m 0 #[.val (.ref x0)] [] := by first | (simp [entryFrame, mkF, argsToLocals, Value.category]; done) | rfl
def Q41 (Z : State) (x1 : Int32) (h0 : Heap) (n0 : Nat) (v : Option Value) (h : Heap) (L : List Loc) : Prop := v = some (.int x1) ∧ Fr n0 L ∧ h = h0
set_option maxRecDepth 65536 in
set_option maxHeartbeats 40000000 in
theorem rm41 (l : Launch) (Z : State) (a0 : Array Value) (hw : ∀ d ∈ tables_1, d.before a0 Z = true) (ws : List Jvm.Cond) (a1 : Addr) (x1 : Int32) (h0 : Heap) (n0 : Nat) (Z0 : n0 ≤ h0.size) (Eb : Exa Z h0 a1 "java/lang/StringBuilder") (Nb : Fld Z h0 a1 "java/lang/AbstractStringBuilder" "count" "I" (.int x1)) :
    MF l (⟨"java/lang/StringBuilder", "length", "()I"⟩ : MethodName) jdk_67_method_93_code 1 (some .int) ws ({ frames := 1, cells := 0, slots := 0, locals := 12 } : Room) #[(.ref a1)] Z h0 (Q41 Z x1 h0 n0) := by
  refine MetFree.of_bodySF (plainFor_of_name pn_14) hisR ?_
  intro p e s m args below meth c s₁ Bd hml0 hP hK
  obtain ⟨rfl, hZ, hh⟩ := hP
  have hx := Bd.exec
  have hby := Bd.bytes
  have hml : c.maxLocals = 1 := hml0
  have hown : s.vm.findClass "java/lang/StringBuilder" = some m.cls := findClass_of_methodNamed Bd.named
  have hnm := (name_of_methodNamed Bd.named Bd.method).1
  have X0 : Stand p l e ({ frames := 1, cells := 0, slots := 0, locals := 12 } : Room) s m #[(.ref a1)] below meth c s₁ [] 0 0 := Stand.of_body Bd
  have e0 : s₁.heap = h0 := by rw [← hh, Bd.state]; rfl
  have N0 := Fr.nil n0
  refine Goes.via (next := s₁.setTop (mkF m 0 #[.val (.ref a1)] [])) (fun t k => castTop (ef_41 m a1) k) ?_
  refine Goes.via (next := s₁.setTop (mkF m 1 #[sr a1] [(.ref a1)])) (fun t k => XS.aloadN X0.here hx rfl (hb hby d41_0) rfl rfl k) ?_
  obtain ⟨_, _, ⟨T1, L1, k1, n1⟩, -, X1, ⟨Lc1, hQ1, l1, y1, z1⟩, st1⟩ := superBack X0 hx hZ hown (Wd hw 250 rfl) (ownSameSelf (Wd hw 246 rfl) (Wd hw 203 rfl) rfl (by decide)) (Wd hw 246 rfl) (Wd hw 185 rfl) (by decide) (backOf (W := 0) (rm42 l Z a0 hw [] a1 x1 h0 n0 Z0 Nb) hZ (Wd hw 251 rfl) (Wd hw 169 rfl) (by decide) (by decide)) e0 (Ins.self Eb) (g := (mkF m 1 #[sr a1] [(.ref a1)])) rfl (by rw [hml]; rfl) (Wd hw 251 rfl) (argsL := []) (rest := []) (lenOf pd_16 rfl) rfl (by show 2 * 0 + _ ≤ _; exact Nat.le_of_eq rfl) (hb hby d41_1) (fun _ _ => ⟨rfl, e0, (by decide : 0 + 0 ≤ _), (by decide : 0 + 0 ≤ _)⟩)
  dsimp only [Pt.U, Pt.locs, Pt.cells, Pt.slots] at X1 l1 y1 z1 st1 hQ1
  subst l1 y1 z1
  obtain ⟨rfl, N1q, er1⟩ := hQ1
  have e1 : T1.heap = h0 := er1
  have N1 := Fr.app N0 N1q
  refine Goes.via (next := T1.setTop (mkF m 4 #[sr a1] [(.int x1)])) (fun t k => st1.trans k) ?_
  obtain ⟨fs, hr, hrun, hended, hW, hsame⟩ := X1.leave (v := some (.int x1)) (fun h => by rw [Bd.returns] at h; cases h)
  refine ⟨_, _, ?_, hrun, hended, _, _, rfl, ?_, ⟨_, rfl⟩, hW, hsame.mono (by decide) (by decide)⟩
  · exact retI X1 hx Bd.returns (hb hby d41_4) hr
  · show Q41 Z x1 h0 n0 _ T1.heap _
    rw [e1]
    exact ⟨rfl, N1, rfl⟩
theorem d43_0 : decode jdk_68_method_68_code 0 = .ok (.getstatic 18, 3) := by decide +kernel
theorem d43_3 : decode jdk_68_method_68_code 3 = .ok (.ifCond .eq 14, 3) := by decide +kernel
theorem d43_6 : decode jdk_68_method_68_code 6 = .ok (.aload_n 0, 1) := by decide +kernel
theorem d43_7 : decode jdk_68_method_68_code 7 = .ok (.getfield 22, 3) := by decide +kernel
theorem d43_10 : decode jdk_68_method_68_code 10 = .ok (.ifCond .ne 7, 3) := by decide +kernel
theorem d43_13 : decode jdk_68_method_68_code 13 = .ok (.iconst 1, 1) := by decide +kernel
theorem d43_14 : decode jdk_68_method_68_code 14 = .ok (.goto 4, 3) := by decide +kernel
theorem d43_18 : decode jdk_68_method_68_code 18 = .ok (.ireturn, 1) := by decide +kernel
theorem ef_43 (m : MethodId) (x0 : Addr) : entryFrame m #[(.ref x0)] 1 = mkF m 0 #[.val (.ref x0)] [] := by first | (simp [entryFrame, mkF, argsToLocals, Value.category]; done) | rfl
def Q43 (Z : State) (h0 : Heap) (n0 : Nat) (v : Option Value) (h : Heap) (L : List Loc) : Prop := v = some (.int (1 : Int32)) ∧ Fr n0 L ∧ h = h0
set_option maxRecDepth 65536 in
set_option maxHeartbeats 40000000 in
theorem rm43 (l : Launch) (Z : State) (a0 : Array Value) (hw : ∀ d ∈ tables_1, d.before a0 Z = true) (ws : List Jvm.Cond) (a1 : Addr) (w0 : Int32) (rE rL eL : Addr) (kL : ClassId) (nZ : Nat) (h0 : Heap) (n0 : Nat) (Z0 : n0 ≤ h0.size) (Cb : Fld Z h0 a1 "java/lang/AbstractStringBuilder" "coder" "B" (.int (0 : Int32))) (O0 : Old Z nZ h0) (hz : nZ ≤ n0) (St : own_St Z w0 rE rL eL kL) :
    MF l (⟨"java/lang/AbstractStringBuilder", "isLatin1", "()Z"⟩ : MethodName) jdk_68_method_68_code 1 (some .boolean) ws ({ frames := 0, cells := 0, slots := 0, locals := 0 } : Room) #[(.ref a1)] Z h0 (Q43 Z  h0 n0) := by
  refine MetFree.of_bodySF (plainFor_of_name pn_13) hisR ?_
  intro p e s m args below meth c s₁ Bd hml0 hP hK
  obtain ⟨rfl, hZ, hh⟩ := hP
  have hx := Bd.exec
  have hby := Bd.bytes
  have hml : c.maxLocals = 1 := hml0
  have hown : s.vm.findClass "java/lang/AbstractStringBuilder" = some m.cls := findClass_of_methodNamed Bd.named
  have hnm := (name_of_methodNamed Bd.named Bd.method).1
  have X0 : Stand p l e ({ frames := 0, cells := 0, slots := 0, locals := 0 } : Room) s m #[(.ref a1)] below meth c s₁ [] 0 0 := Stand.of_body Bd
  have e0 : s₁.heap = h0 := by rw [← hh, Bd.state]; rfl
  have N0 := Fr.nil n0
  refine Goes.via (next := s₁.setTop (mkF m 0 #[.val (.ref a1)] [])) (fun t k => castTop (ef_43 m a1) k) ?_
  obtain ⟨T1, X1, e1, st1⟩ := getS2 X0 hx hZ hown (host := "") (Or.inl (Wd hw 172 rfl)) Via.refl e0 (St.1.ext O0.2) (g := (mkF m 0 #[sr a1] [])) rfl (hb hby d43_0)
  refine Goes.via (next := T1.setTop (mkF m 3 #[sr a1] [(.int w0)])) st1 ?_
  have hc3_2 : ¬ (w0 = (0 : Int32)) := St.2.1
  refine Goes.via (next := T1.setTop (mkF m 6 #[sr a1] [])) (fun t k => XS.ifNo X1.here hx rfl (hb hby d43_3) rfl ((if0 _ _).trans (feq hc3_2).1) k) ?_
  refine Goes.via (next := T1.setTop (mkF m 7 #[sr a1] [(.ref a1)])) (fun t k => XS.aloadN X1.here hx rfl (hb hby d43_6) rfl rfl k) ?_
  obtain ⟨T3, X3, e3, st3⟩ := getF X1 hx hZ hown (host := "") (Or.inl (Wd hw 175 rfl)) Via.refl e1 Cb (g := (mkF m 7 #[sr a1] [(.ref a1)])) rfl rfl (hb hby d43_7)
  refine Goes.via (next := T3.setTop (mkF m 10 #[sr a1] [(.int (0 : Int32))])) st3 ?_
  refine Goes.via (next := T3.setTop (mkF m 13 #[sr a1] [])) (fun t k => XS.ifNo X3.here hx rfl (hb hby d43_10) rfl ((if0 _ _).trans (teq (show (0 : Int32) = (0 : Int32) from rfl)).2) k) ?_
  refine Goes.via (next := T3.setTop (mkF m 18 #[sr a1] [(.int (1 : Int32))])) (fun t k => XS.iconst X3.here hx rfl (hb hby d43_13) (XS.goto X3.here hx rfl (pc0 := 14) (pc' := 18) rfl (hb hby d43_14) (by decide) (by decide) k)) ?_
  obtain ⟨fs, hr, hrun, hended, hW, hsame⟩ := X3.leave (v := some (.int (1 : Int32))) (fun h => by rw [Bd.returns] at h; cases h)
  refine ⟨_, _, ?_, hrun, hended, _, _, rfl, ?_, ⟨_, rfl⟩, hW, hsame.mono (by decide) (by decide)⟩
  · exact retN X3 hx (t := .boolean) Bd.returns (by simp) (hb hby d43_18) hr
  · show Q43 Z  h0 n0 _ T3.heap _
    rw [e3]
    exact ⟨rfl, N0, rfl⟩
theorem d47_0 : decode jdk_29_method_69_code 0 = .ok (.iload_n 0, 1) := by decide +kernel
theorem d47_1 : decode jdk_29_method_69_code 1 = .ok (.iload_n 1, 1) := by decide +kernel
theorem d47_2 : decode jdk_29_method_69_code 2 = .ok (.if_icmp .gt 7, 3) := by decide +kernel
theorem d47_9 : decode jdk_29_method_69_code 9 = .ok (.iload_n 1, 1) := by decide +kernel
theorem d47_10 : decode jdk_29_method_69_code 10 = .ok (.ireturn, 1) := by decide +kernel
theorem ef_47 (m : MethodId)  : entryFrame m #[(.int (16 : Int32)), (.int (4 : Int32))] 2 = mkF m 0 #[.val (.int (16 : Int32)), .val (.int (4 : Int32))] [] := by first | (simp [entryFrame, mkF, argsToLocals, Value.category]; done) | rfl
def Q47 (Z : State) (h0 : Heap) (n0 : Nat) (v : Option Value) (h : Heap) (L : List Loc) : Prop := v = some (.int (4 : Int32)) ∧ Fr n0 L ∧ h = h0
set_option maxRecDepth 65536 in
set_option maxHeartbeats 40000000 in
theorem rm47 (l : Launch) (Z : State) (a0 : Array Value) (hw : ∀ d ∈ tables_1, d.before a0 Z = true) (ws : List Jvm.Cond)  (h0 : Heap) (n0 : Nat) (Z0 : n0 ≤ h0.size) :
    MF l (⟨"java/lang/Math", "min", "(II)I"⟩ : MethodName) jdk_29_method_69_code 2 (some .int) ws ({ frames := 0, cells := 0, slots := 0, locals := 0 } : Room) #[(.int (16 : Int32)), (.int (4 : Int32))] Z h0 (Q47 Z  h0 n0) := by
  refine MetFree.of_bodySF (Jvm.Free.JP.mathPlain rfl (by decide +kernel)) hisR ?_
  intro p e s m args below meth c s₁ Bd hml0 hP hK
  obtain ⟨rfl, hZ, hh⟩ := hP
  have hx := Bd.exec
  have hby := Bd.bytes
  have hml : c.maxLocals = 2 := hml0
  have hown : s.vm.findClass "java/lang/Math" = some m.cls := findClass_of_methodNamed Bd.named
  have hnm := (name_of_methodNamed Bd.named Bd.method).1
  have X0 : Stand p l e ({ frames := 0, cells := 0, slots := 0, locals := 0 } : Room) s m #[(.int (16 : Int32)), (.int (4 : Int32))] below meth c s₁ [] 0 0 := Stand.of_body Bd
  have e0 : s₁.heap = h0 := by rw [← hh, Bd.state]; rfl
  have N0 := Fr.nil n0
  refine Goes.via (next := s₁.setTop (mkF m 0 #[.val (.int (16 : Int32)), .val (.int (4 : Int32))] [])) (fun t k => castTop (ef_47 m ) k) ?_
  refine Goes.via (next := s₁.setTop (mkF m 10 #[si (16 : Int32), si (4 : Int32)] [(.int (4 : Int32))])) (fun t k => XS.iloadN X0.here hx rfl (hb hby d47_0) rfl (XS.iloadN X0.here hx rfl (hb hby d47_1) rfl (XS.icmpYes X0.here hx rfl (pc0 := 2) (pc' := 9) rfl (hb hby d47_2) rfl (tlt (show (4 : Int32) < (16 : Int32) from (by decide))).2.2.1 (by decide) (by decide) (XS.iloadN X0.here hx rfl (hb hby d47_9) rfl k)))) ?_
  obtain ⟨fs, hr, hrun, hended, hW, hsame⟩ := X0.leave (v := some (.int (4 : Int32))) (fun h => by rw [Bd.returns] at h; cases h)
  refine ⟨_, _, ?_, hrun, hended, _, _, rfl, ?_, ⟨_, rfl⟩, hW, hsame.mono (by decide) (by decide)⟩
  · exact retI X0 hx Bd.returns (hb hby d47_10) hr
  · show Q47 Z  h0 n0 _ s₁.heap _
    rw [e0]
    exact ⟨rfl, N0, rfl⟩
theorem d46_0 : decode jdk_65_method_131_code 0 = .ok (.iload_n 1, 1) := by decide +kernel
theorem d46_1 : decode jdk_65_method_131_code 1 = .ok (.iload_n 0, 1) := by decide +kernel
theorem d46_2 : decode jdk_65_method_131_code 2 = .ok (.if_icmp .ge 35, 3) := by decide +kernel
theorem d46_37 : decode jdk_65_method_131_code 37 = .ok (.return_, 1) := by decide +kernel
theorem pn_15 : plainName "java/util/Arrays" = true := by first | (simp [plainName, overriddenIn]; done) | decide +kernel
theorem ef_46 (m : MethodId)  : entryFrame m #[(.int (0 : Int32)), (.int (4 : Int32))] 2 = mkF m 0 #[.val (.int (0 : Int32)), .val (.int (4 : Int32))] [] := by first | (simp [entryFrame, mkF, argsToLocals, Value.category]; done) | rfl
def Q46 (Z : State) (h0 : Heap) (n0 : Nat) (v : Option Value) (h : Heap) (L : List Loc) : Prop := v = none ∧ Fr n0 L ∧ h = h0
set_option maxRecDepth 65536 in
set_option maxHeartbeats 40000000 in
theorem rm46 (l : Launch) (Z : State) (a0 : Array Value) (hw : ∀ d ∈ tables_1, d.before a0 Z = true) (ws : List Jvm.Cond)  (h0 : Heap) (n0 : Nat) (Z0 : n0 ≤ h0.size) :
    MF l (⟨"java/util/Arrays", "checkLength", "(II)V"⟩ : MethodName) jdk_65_method_131_code 2 none ws ({ frames := 0, cells := 0, slots := 0, locals := 0 } : Room) #[(.int (0 : Int32)), (.int (4 : Int32))] Z h0 (Q46 Z  h0 n0) := by
  refine MetFree.of_bodySF (plainFor_of_name pn_15) hisR ?_
  intro p e s m args below meth c s₁ Bd hml0 hP hK
  obtain ⟨rfl, hZ, hh⟩ := hP
  have hx := Bd.exec
  have hby := Bd.bytes
  have hml : c.maxLocals = 2 := hml0
  have hown : s.vm.findClass "java/util/Arrays" = some m.cls := findClass_of_methodNamed Bd.named
  have hnm := (name_of_methodNamed Bd.named Bd.method).1
  have X0 : Stand p l e ({ frames := 0, cells := 0, slots := 0, locals := 0 } : Room) s m #[(.int (0 : Int32)), (.int (4 : Int32))] below meth c s₁ [] 0 0 := Stand.of_body Bd
  have e0 : s₁.heap = h0 := by rw [← hh, Bd.state]; rfl
  have N0 := Fr.nil n0
  refine Goes.via (next := s₁.setTop (mkF m 0 #[.val (.int (0 : Int32)), .val (.int (4 : Int32))] [])) (fun t k => castTop (ef_46 m ) k) ?_
  refine Goes.via (next := s₁.setTop (mkF m 37 #[si (0 : Int32), si (4 : Int32)] [])) (fun t k => XS.iloadN X0.here hx rfl (hb hby d46_0) rfl (XS.iloadN X0.here hx rfl (hb hby d46_1) rfl (XS.icmpYes X0.here hx rfl (pc0 := 2) (pc' := 37) rfl (hb hby d46_2) rfl (flt (show ¬ ((4 : Int32) < (0 : Int32)) from (by decide))).2.1 (by decide) (by decide) k))) ?_
  obtain ⟨fs, hr, hrun, hended, hW, hsame⟩ := X0.leave (v := none) (fun _ => rfl)
  refine ⟨_, _, ?_, hrun, hended, _, _, rfl, ?_, ⟨_, rfl⟩, hW, hsame.mono (by decide) (by decide)⟩
  · exact X0.returnOut hx Bd.returns (hb hby d46_37) hr
  · show Q46 Z  h0 n0 _ s₁.heap _
    rw [e0]
    exact ⟨rfl, N0, rfl⟩
theorem d45_0 : decode jdk_65_method_133_code 0 = .ok (.iload_n 1, 1) := by decide +kernel
theorem d45_1 : decode jdk_65_method_133_code 1 = .ok (.iload_n 2, 1) := by decide +kernel
theorem d45_2 : decode jdk_65_method_133_code 2 = .ok (.invokestatic 343, 3) := by decide +kernel
theorem d45_5 : decode jdk_65_method_133_code 5 = .ok (.iload_n 2, 1) := by decide +kernel
theorem d45_6 : decode jdk_65_method_133_code 6 = .ok (.iload_n 1, 1) := by decide +kernel
theorem d45_7 : decode jdk_65_method_133_code 7 = .ok (.isub, 1) := by decide +kernel
theorem d45_8 : decode jdk_65_method_133_code 8 = .ok (.istore_n 3, 1) := by decide +kernel
theorem d45_9 : decode jdk_65_method_133_code 9 = .ok (.iload_n 3, 1) := by decide +kernel
theorem d45_10 : decode jdk_65_method_133_code 10 = .ok (.newarray .byte, 2) := by decide +kernel
theorem d45_12 : decode jdk_65_method_133_code 12 = .ok (.astore 4, 2) := by decide +kernel
theorem d45_14 : decode jdk_65_method_133_code 14 = .ok (.aload_n 0, 1) := by decide +kernel
theorem d45_15 : decode jdk_65_method_133_code 15 = .ok (.iload_n 1, 1) := by decide +kernel
theorem d45_16 : decode jdk_65_method_133_code 16 = .ok (.aload 4, 2) := by decide +kernel
theorem d45_18 : decode jdk_65_method_133_code 18 = .ok (.iconst 0, 1) := by decide +kernel
theorem d45_19 : decode jdk_65_method_133_code 19 = .ok (.aload_n 0, 1) := by decide +kernel
theorem d45_20 : decode jdk_65_method_133_code 20 = .ok (.arraylength, 1) := by decide +kernel
theorem d45_21 : decode jdk_65_method_133_code 21 = .ok (.iload_n 1, 1) := by decide +kernel
theorem d45_22 : decode jdk_65_method_133_code 22 = .ok (.isub, 1) := by decide +kernel
theorem d45_23 : decode jdk_65_method_133_code 23 = .ok (.iload_n 3, 1) := by decide +kernel
theorem d45_24 : decode jdk_65_method_133_code 24 = .ok (.invokestatic 304, 3) := by decide +kernel
theorem d45_27 : decode jdk_65_method_133_code 27 = .ok (.invokestatic 150, 3) := by decide +kernel
theorem d45_30 : decode jdk_65_method_133_code 30 = .ok (.aload 4, 2) := by decide +kernel
theorem d45_32 : decode jdk_65_method_133_code 32 = .ok (.areturn, 1) := by decide +kernel
theorem pd_19 : parseMethodDescriptor "(II)V" = some ⟨[.int, .int], none⟩ := by decide +kernel
theorem pd_20 : parseMethodDescriptor "(II)I" = some ⟨[.int, .int], some .int⟩ := by decide +kernel
theorem ef_45 (m : MethodId) (x0 : Addr) : entryFrame m #[(.ref x0), (.int (0 : Int32)), (.int (4 : Int32))] 5 = mkF m 0 #[.val (.ref x0), .val (.int (0 : Int32)), .val (.int (4 : Int32)), .unset, .unset] [] := by first | (simp [entryFrame, mkF, argsToLocals, Value.category]; done) | rfl
def Q45 (Z : State) (x0 x1 x2 x3 : Int32) (h0 : Heap) (n0 : Nat) (v : Option Value) (h : Heap) (L : List Loc) : Prop := ∃ (t : Addr) (k : ClassId), v = some (.ref t) ∧ Fr n0 L ∧ n0 ≤ t ∧ h0.size ≤ t ∧ Keep h0 h [] ∧ Arv Z h t k .byte (4 : Int32) [(.int x0), (.int x1), (.int x2), (.int x3)] (.int (0 : Int32))
set_option maxRecDepth 65536 in
set_option maxHeartbeats 40000000 in
theorem rm45 (l : Launch) (Z : State) (a0 : Array Value) (hw : ∀ d ∈ tables_1, d.before a0 Z = true) (ws : List Jvm.Cond) (a1 : Addr) (k1 : ClassId) (x0 x1 x2 x3 : Int32) (h0 : Heap) (n0 : Nat) (Z0 : n0 ≤ h0.size) (V1 : Arv Z h0 a1 k1 .byte (16 : Int32) [(.int x0), (.int x1), (.int x2), (.int x3), (.int (0 : Int32)), (.int (0 : Int32)), (.int (0 : Int32)), (.int (0 : Int32)), (.int (0 : Int32)), (.int (0 : Int32)), (.int (0 : Int32)), (.int (0 : Int32)), (.int (0 : Int32)), (.int (0 : Int32)), (.int (0 : Int32)), (.int (0 : Int32))] (.int (0 : Int32))) :
    MF l (⟨"java/util/Arrays", "copyOfRangeByte", "([BII)[B"⟩ : MethodName) jdk_65_method_133_code 5 (some (.array .byte)) ws ({ frames := 1, cells := 1, slots := 4, locals := 18 } : Room) #[(.ref a1), (.int (0 : Int32)), (.int (4 : Int32))] Z h0 (Q45 Z x0 x1 x2 x3 h0 n0) := by
  refine MetFree.of_bodySF (plainFor_of_name pn_15) hisR ?_
  intro p e s m args below meth c s₁ Bd hml0 hP hK
  obtain ⟨rfl, hZ, hh⟩ := hP
  have hx := Bd.exec
  have hby := Bd.bytes
  have hml : c.maxLocals = 5 := hml0
  have hown : s.vm.findClass "java/util/Arrays" = some m.cls := findClass_of_methodNamed Bd.named
  have hnm := (name_of_methodNamed Bd.named Bd.method).1
  have X0 : Stand p l e ({ frames := 1, cells := 1, slots := 4, locals := 18 } : Room) s m #[(.ref a1), (.int (0 : Int32)), (.int (4 : Int32))] below meth c s₁ [] 0 0 := Stand.of_body Bd
  have e0 : s₁.heap = h0 := by rw [← hh, Bd.state]; rfl
  have N0 := Fr.nil n0
  refine Goes.via (next := s₁.setTop (mkF m 0 #[.val (.ref a1), .val (.int (0 : Int32)), .val (.int (4 : Int32)), .unset, .unset] [])) (fun t k => castTop (ef_45 m a1) k) ?_
  refine Goes.via (next := s₁.setTop (mkF m 2 #[sr a1, si (0 : Int32), si (4 : Int32), .unset, .unset] [(.int (4 : Int32)), (.int (0 : Int32))])) (fun t k => XS.iloadN X0.here hx rfl (hb hby d45_0) rfl (XS.iloadN X0.here hx rfl (hb hby d45_1) rfl k)) ?_
  obtain ⟨_, _, ⟨T1, L1, k1, n1⟩, -, X1, ⟨Lc1, hQ1, l1, y1, z1⟩, st1⟩ := Jvm.LawKit.callS X0 hx (y := (⟨"java/util/Arrays", "checkLength", "(II)V"⟩ : MethodName)) hown (mvT hZ (Wd hw 264 rfl)) (mvT hZ (Wd hw 265 rfl)) (mvT hZ (Wd hw 259 rfl)) (mvT hZ (Wd hw 266 rfl)) (by decide) (backOf (W := 0) (rm46 l Z a0 hw []   h0 n0 Z0 ) hZ (Wd hw 266 rfl) (Wd hw 259 rfl) (by decide) (by decide)) (g := (mkF m 2 #[sr a1, si (0 : Int32), si (4 : Int32), .unset, .unset] [(.int (4 : Int32)), (.int (0 : Int32))])) rfl (by rw [hml]; rfl) (argsL := [(.int (0 : Int32)), (.int (4 : Int32))]) (rest := []) (lenOf pd_19 rfl) rfl (by show 2 * 0 + _ ≤ _; exact Nat.le_of_eq rfl) (hb hby d45_2) (fun _ _ => ⟨rfl, e0, (by decide : 0 + 0 ≤ _), (by decide : 0 + 0 ≤ _)⟩)
  dsimp only [Pt.U, Pt.locs, Pt.cells, Pt.slots] at X1 l1 y1 z1 st1 hQ1
  subst l1 y1 z1
  obtain ⟨rfl, N1q, er1⟩ := hQ1
  have e1 : T1.heap = h0 := er1
  have N1 := Fr.app N0 N1q
  refine Goes.via (next := T1.setTop (mkF m 5 #[sr a1, si (0 : Int32), si (4 : Int32), .unset, .unset] [])) st1 ?_
  refine Goes.via (next := T1.setTop (mkF m 10 #[sr a1, si (0 : Int32), si (4 : Int32), si (4 : Int32), .unset] [(.int (4 : Int32))])) (fun t k => XS.iloadN X1.here hx rfl (hb hby d45_5) rfl (XS.iloadN X1.here hx rfl (hb hby d45_6) rfl (XS.isub X1.here hx rfl (hb hby d45_7) rfl (XS.istoreN X1.here hx rfl (hb hby d45_8) rfl (l' := #[sr a1, si (0 : Int32), si (4 : Int32), si (4 : Int32), .unset]) rfl (XS.iloadN X1.here hx rfl (hb hby d45_9) rfl k))))) ?_
  obtain ⟨T2, h2, ka2, X2, e2, E2, A2, st2⟩ := newP X1 hx hZ (Wd hw 23 rfl) e1 (g := (mkF m 10 #[sr a1, si (0 : Int32), si (4 : Int32), si (4 : Int32), .unset] [(.int (4 : Int32))])) rfl (hb hby d45_10) rfl (by decide) (cap := 4) (by decide) (by decide) (by decide) (by decide)
  obtain ⟨b2, g2⟩ : ∃ z, z = h0.size := ⟨_, rfl⟩
  rw [← g2] at A2 st2
  have lt_a1_b2 : a1 < b2 := Nat.lt_of_lt_of_le V1.lt (Nat.le_of_eq g2.symm)
  have ge_b2 : n0 ≤ b2 := Nat.le_trans Z0 (Nat.le_of_eq g2.symm)
  have sz_b2 : h0.size ≤ b2 := Nat.le_trans (Keep.refl h0 []).1 (Nat.le_of_eq g2.symm)
  have F2_15 := V1.ext E2
  have K2 : Keep h0 h2 [] := (Keep.refl h0 []).ext E2
  have Z2 : n0 ≤ h2.size := Nat.le_trans Z0 E2.1
  have V2 : Arv Z h2 b2 ka2 .byte (4 : Int32) [(.int (0 : Int32)), (.int (0 : Int32)), (.int (0 : Int32)), (.int (0 : Int32))] (.int (0 : Int32)) := (Arv.new A2 (by decide)).pad (pad_rep [] (.int (0 : Int32)) 4)
  refine Goes.via (next := T2.setTop (mkF m 12 #[sr a1, si (0 : Int32), si (4 : Int32), si (4 : Int32), .unset] [(.ref b2)])) st2 ?_
  refine Goes.via (next := T2.setTop (mkF m 20 #[sr a1, si (0 : Int32), si (4 : Int32), si (4 : Int32), sr b2] [(.ref a1), (.int (0 : Int32)), (.ref b2), (.int (0 : Int32)), (.ref a1)])) (fun t k => XS.astore X2.here hx rfl (hb hby d45_12) rfl rfl (l' := #[sr a1, si (0 : Int32), si (4 : Int32), si (4 : Int32), sr b2]) rfl (XS.aloadN X2.here hx rfl (hb hby d45_14) rfl rfl (XS.iloadN X2.here hx rfl (hb hby d45_15) rfl (XS.aload X2.here hx rfl (hb hby d45_16) rfl rfl (XS.iconst X2.here hx rfl (hb hby d45_18) (XS.aloadN X2.here hx rfl (hb hby d45_19) rfl rfl k)))))) ?_
  obtain ⟨cl3, Ar3, -, Sa3, Na3, -, -⟩ := id F2_15
  refine Goes.via (next := T2.setTop (mkF m 21 #[sr a1, si (0 : Int32), si (4 : Int32), si (4 : Int32), sr b2] [(.int (16 : Int32)), (.int (0 : Int32)), (.ref b2), (.int (0 : Int32)), (.ref a1)])) (fun t k => X2.arraylength hx (by rw [e2]; exact Ar3.1) (State.isArrayOf_alike hZ.alike Ar3.2.1) (g := (mkF m 20 #[sr a1, si (0 : Int32), si (4 : Int32), si (4 : Int32), sr b2] [(.ref a1), (.int (0 : Int32)), (.ref b2), (.int (0 : Int32)), (.ref a1)])) rfl rfl (hb hby d45_20) _ (by rw [len_of Sa3 Na3]; exact k)) ?_
  refine Goes.via (next := T2.setTop (mkF m 24 #[sr a1, si (0 : Int32), si (4 : Int32), si (4 : Int32), sr b2] [(.int (4 : Int32)), (.int (16 : Int32)), (.int (0 : Int32)), (.ref b2), (.int (0 : Int32)), (.ref a1)])) (fun t k => XS.iloadN X2.here hx rfl (hb hby d45_21) rfl (XS.isub X2.here hx rfl (hb hby d45_22) rfl (XS.iloadN X2.here hx rfl (hb hby d45_23) rfl k))) ?_
  obtain ⟨Lw4, X4w, N4w⟩ := ownPack X2 N1
  obtain ⟨_, _, ⟨T5, L5, k5, n5⟩, -, X5, ⟨Lc5, hQ5, l5, y5, z5⟩, st5⟩ := Jvm.LawKit.callS X4w hx (y := (⟨"java/lang/Math", "min", "(II)I"⟩ : MethodName)) hown (mvT hZ (Wd hw 267 rfl)) (mvT hZ (Wd hw 268 rfl)) (mvT hZ (Wd hw 269 rfl)) (mvT hZ (Wd hw 270 rfl)) (by decide) (backOf (W := 4) (rm47 l Z a0 hw []   h2 n0 Z2 ) hZ (Wd hw 270 rfl) (Wd hw 269 rfl) (by decide) (by decide)) (g := (mkF m 24 #[sr a1, si (0 : Int32), si (4 : Int32), si (4 : Int32), sr b2] [(.int (4 : Int32)), (.int (16 : Int32)), (.int (0 : Int32)), (.ref b2), (.int (0 : Int32)), (.ref a1)])) rfl (by rw [hml]; rfl) (argsL := [(.int (16 : Int32)), (.int (4 : Int32))]) (rest := [(.int (0 : Int32)), (.ref b2), (.int (0 : Int32)), (.ref a1)]) (lenOf pd_20 rfl) rfl (by show 2 * 0 + _ ≤ _; exact Nat.le_of_eq rfl) (hb hby d45_24) (fun _ _ => ⟨rfl, e2, (by decide : 1 + 0 ≤ _), (by decide : 4 + 0 ≤ _)⟩)
  dsimp only [Pt.U, Pt.locs, Pt.cells, Pt.slots] at X5 l5 y5 z5 st5 hQ5
  subst l5 y5 z5
  obtain ⟨rfl, N5q, er5⟩ := hQ5
  have e5 : T5.heap = h2 := er5
  have N5 := Fr.app N4w N5q
  refine Goes.via (next := T5.setTop (mkF m 27 #[sr a1, si (0 : Int32), si (4 : Int32), si (4 : Int32), sr b2] [(.int (4 : Int32)), (.int (0 : Int32)), (.ref b2), (.int (0 : Int32)), (.ref a1)])) st5 ?_
  obtain ⟨Lw6, X6w, N6w⟩ := ownPack X5 N5
  obtain ⟨T7, _, L7, X7, rfl, N7, K7c, V7c, st7⟩ := cpA X6w hx hZ hown (Wd hw 271 rfl) (Wd hw 224 rfl) (Wd hw 222 rfl) (Wd hw 223 rfl) e5 F2_15 V2 (us := [(.int x0), (.int x1), (.int x2), (.int x3)]) (Or.inl ⟨rfl, rfl⟩) (by decide) (by decide) (by decide) (by decide) (by decide) rfl (Nat.le_of_ble_eq_true rfl) N6w ge_b2 (g := (mkF m 27 #[sr a1, si (0 : Int32), si (4 : Int32), si (4 : Int32), sr b2] [(.int (4 : Int32)), (.int (0 : Int32)), (.ref b2), (.int (0 : Int32)), (.ref a1)])) rfl (by rw [hml]; rfl) rfl (hb hby d45_27) (by decide) (W := 0) (by show 2 * 0 + _ ≤ _; exact Nat.le_of_eq rfl) (by decide)
  have V7 : Arv Z T7.heap b2 ka2 .byte (4 : Int32) [(.int x0), (.int x1), (.int x2), (.int x3)] (.int (0 : Int32)) := V7c
  have F7_35 := F2_15.keep K7c (fun q => (Nat.ne_of_lt lt_a1_b2) (List.mem_singleton.mp q))
  have K7 : Keep h0 T7.heap [] := K2.trans K7c (fun x hx => by cases List.mem_singleton.mp hx; exact Or.inr sz_b2)
  have Z7 : n0 ≤ T7.heap.size := Nat.le_trans Z2 K7c.1
  refine Goes.via (next := T7.setTop (mkF m 30 #[sr a1, si (0 : Int32), si (4 : Int32), si (4 : Int32), sr b2] [])) st7 ?_
  refine Goes.via (next := T7.setTop (mkF m 32 #[sr a1, si (0 : Int32), si (4 : Int32), si (4 : Int32), sr b2] [(.ref b2)])) (fun t k => XS.aload X7.here hx rfl (hb hby d45_30) rfl rfl k) ?_
  obtain ⟨fs, hr, hrun, hended, hW, hsame⟩ := X7.leave (v := some (.ref b2)) (fun h => by rw [Bd.returns] at h; cases h)
  refine ⟨_, _, ?_, hrun, hended, _, _, rfl, ?_, ⟨_, rfl⟩, hW, hsame.mono (by decide) (by decide)⟩
  · exact retOut X7 hx (t := (.array .byte)) Bd.returns rfl (Or.inr (Or.inr (Or.inr (Or.inr ⟨rfl, rfl, rfl⟩)))) (hb hby d45_32) hr
  · show Q45 Z x0 x1 x2 x3 h0 n0 _ T7.heap _
    exact ⟨b2, _, rfl, N7, ge_b2, sz_b2, K7, V7⟩
theorem d44_0 : decode jdk_65_method_132_code 0 = .ok (.iload_n 1, 1) := by decide +kernel
theorem d44_1 : decode jdk_65_method_132_code 1 = .ok (.ifCond .ne 9, 3) := by decide +kernel
theorem d44_4 : decode jdk_65_method_132_code 4 = .ok (.iload_n 2, 1) := by decide +kernel
theorem d44_5 : decode jdk_65_method_132_code 5 = .ok (.aload_n 0, 1) := by decide +kernel
theorem d44_6 : decode jdk_65_method_132_code 6 = .ok (.arraylength, 1) := by decide +kernel
theorem d44_7 : decode jdk_65_method_132_code 7 = .ok (.if_icmp .eq 10, 3) := by decide +kernel
theorem d44_10 : decode jdk_65_method_132_code 10 = .ok (.aload_n 0, 1) := by decide +kernel
theorem d44_11 : decode jdk_65_method_132_code 11 = .ok (.iload_n 1, 1) := by decide +kernel
theorem d44_12 : decode jdk_65_method_132_code 12 = .ok (.iload_n 2, 1) := by decide +kernel
theorem d44_13 : decode jdk_65_method_132_code 13 = .ok (.invokestatic 339, 3) := by decide +kernel
theorem d44_16 : decode jdk_65_method_132_code 16 = .ok (.areturn, 1) := by decide +kernel
theorem pd_21 : parseMethodDescriptor "([BII)[B" = some ⟨[(.array .byte), .int, .int], some (.array .byte)⟩ := by decide +kernel
theorem ef_44 (m : MethodId) (x0 : Addr) : entryFrame m #[(.ref x0), (.int (0 : Int32)), (.int (4 : Int32))] 3 = mkF m 0 #[.val (.ref x0), .val (.int (0 : Int32)), .val (.int (4 : Int32))] [] := by first | (simp [entryFrame, mkF, argsToLocals, Value.category]; done) | rfl
def Q44 (Z : State) (x0 x1 x2 x3 : Int32) (h0 : Heap) (n0 : Nat) (v : Option Value) (h : Heap) (L : List Loc) : Prop := ∃ (t : Addr) (k : ClassId), v = some (.ref t) ∧ Fr n0 L ∧ n0 ≤ t ∧ h0.size ≤ t ∧ Keep h0 h [] ∧ Arv Z h t k .byte (4 : Int32) [(.int x0), (.int x1), (.int x2), (.int x3)] (.int (0 : Int32))
set_option maxRecDepth 65536 in
set_option maxHeartbeats 40000000 in
theorem rm44 (l : Launch) (Z : State) (a0 : Array Value) (hw : ∀ d ∈ tables_1, d.before a0 Z = true) (ws : List Jvm.Cond) (a1 : Addr) (k1 : ClassId) (x0 x1 x2 x3 : Int32) (h0 : Heap) (n0 : Nat) (Z0 : n0 ≤ h0.size) (V1 : Arv Z h0 a1 k1 .byte (16 : Int32) [(.int x0), (.int x1), (.int x2), (.int x3), (.int (0 : Int32)), (.int (0 : Int32)), (.int (0 : Int32)), (.int (0 : Int32)), (.int (0 : Int32)), (.int (0 : Int32)), (.int (0 : Int32)), (.int (0 : Int32)), (.int (0 : Int32)), (.int (0 : Int32)), (.int (0 : Int32)), (.int (0 : Int32))] (.int (0 : Int32))) :
    MF l (⟨"java/util/Arrays", "copyOfRange", "([BII)[B"⟩ : MethodName) jdk_65_method_132_code 3 (some (.array .byte)) ws ({ frames := 2, cells := 1, slots := 4, locals := 34 } : Room) #[(.ref a1), (.int (0 : Int32)), (.int (4 : Int32))] Z h0 (Q44 Z x0 x1 x2 x3 h0 n0) := by
  refine MetFree.of_bodySF (plainFor_of_name pn_15) hisR ?_
  intro p e s m args below meth c s₁ Bd hml0 hP hK
  obtain ⟨rfl, hZ, hh⟩ := hP
  have hx := Bd.exec
  have hby := Bd.bytes
  have hml : c.maxLocals = 3 := hml0
  have hown : s.vm.findClass "java/util/Arrays" = some m.cls := findClass_of_methodNamed Bd.named
  have hnm := (name_of_methodNamed Bd.named Bd.method).1
  have X0 : Stand p l e ({ frames := 2, cells := 1, slots := 4, locals := 34 } : Room) s m #[(.ref a1), (.int (0 : Int32)), (.int (4 : Int32))] below meth c s₁ [] 0 0 := Stand.of_body Bd
  have e0 : s₁.heap = h0 := by rw [← hh, Bd.state]; rfl
  have N0 := Fr.nil n0
  refine Goes.via (next := s₁.setTop (mkF m 0 #[.val (.ref a1), .val (.int (0 : Int32)), .val (.int (4 : Int32))] [])) (fun t k => castTop (ef_44 m a1) k) ?_
  refine Goes.via (next := s₁.setTop (mkF m 6 #[sr a1, si (0 : Int32), si (4 : Int32)] [(.ref a1), (.int (4 : Int32))])) (fun t k => XS.iloadN X0.here hx rfl (hb hby d44_0) rfl (XS.ifNo X0.here hx rfl (hb hby d44_1) rfl ((if0 _ _).trans (teq (show (0 : Int32) = (0 : Int32) from rfl)).2) (XS.iloadN X0.here hx rfl (hb hby d44_4) rfl (XS.aloadN X0.here hx rfl (hb hby d44_5) rfl rfl k)))) ?_
  obtain ⟨cl1, Ar1, -, Sa1, Na1, -, -⟩ := id V1
  refine Goes.via (next := s₁.setTop (mkF m 7 #[sr a1, si (0 : Int32), si (4 : Int32)] [(.int (16 : Int32)), (.int (4 : Int32))])) (fun t k => X0.arraylength hx (by rw [e0]; exact Ar1.1) (State.isArrayOf_alike hZ.alike Ar1.2.1) (g := (mkF m 6 #[sr a1, si (0 : Int32), si (4 : Int32)] [(.ref a1), (.int (4 : Int32))])) rfl rfl (hb hby d44_6) _ (by rw [len_of Sa1 Na1]; exact k)) ?_
  refine Goes.via (next := s₁.setTop (mkF m 10 #[sr a1, si (0 : Int32), si (4 : Int32)] [])) (fun t k => XS.icmpNo X0.here hx rfl (hb hby d44_7) rfl (feq (show ¬ ((4 : Int32) = (16 : Int32)) from (by decide))).1 k) ?_
  refine Goes.via (next := s₁.setTop (mkF m 13 #[sr a1, si (0 : Int32), si (4 : Int32)] [(.int (4 : Int32)), (.int (0 : Int32)), (.ref a1)])) (fun t k => XS.aloadN X0.here hx rfl (hb hby d44_10) rfl rfl (XS.iloadN X0.here hx rfl (hb hby d44_11) rfl (XS.iloadN X0.here hx rfl (hb hby d44_12) rfl k))) ?_
  obtain ⟨_, _, ⟨T2, L2, k2, n2⟩, -, X2, ⟨Lc2, hQ2, l2, y2, z2⟩, st2⟩ := Jvm.LawKit.callS X0 hx (y := (⟨"java/util/Arrays", "copyOfRangeByte", "([BII)[B"⟩ : MethodName)) hown (mvT hZ (Wd hw 261 rfl)) (mvT hZ (Wd hw 262 rfl)) (mvT hZ (Wd hw 259 rfl)) (mvT hZ (Wd hw 263 rfl)) (by decide) (backOf (W := 0) (rm45 l Z a0 hw [] a1 k1 x0 x1 x2 x3 h0 n0 Z0 V1) hZ (Wd hw 263 rfl) (Wd hw 259 rfl) (by decide) (by decide)) (g := (mkF m 13 #[sr a1, si (0 : Int32), si (4 : Int32)] [(.int (4 : Int32)), (.int (0 : Int32)), (.ref a1)])) rfl (by rw [hml]; rfl) (argsL := [(.ref a1), (.int (0 : Int32)), (.int (4 : Int32))]) (rest := []) (lenOf pd_21 rfl) rfl (by show 2 * 0 + _ ≤ _; exact Nat.le_of_eq rfl) (hb hby d44_13) (fun _ _ => ⟨rfl, e0, (by decide : 0 + 1 ≤ _), (by decide : 0 + 4 ≤ _)⟩)
  dsimp only [Pt.U, Pt.locs, Pt.cells, Pt.slots] at X2 l2 y2 z2 st2 hQ2
  subst l2 y2 z2
  obtain ⟨t2, kt2, rfl, N2q, gt2, zt2, Kc2, Vc2⟩ := hQ2
  have lt_a1_t2 : a1 < t2 := Nat.lt_of_lt_of_le V1.lt zt2
  have sz_t2 : h0.size ≤ t2 := Nat.le_trans (Keep.refl h0 []).1 zt2
  have F2_11 := V1.keep Kc2 List.not_mem_nil
  have K2 : Keep h0 T2.heap [] := (Keep.refl h0 []).trans Kc2 (fun x hx => nomatch hx)
  have Z2 : n0 ≤ T2.heap.size := Nat.le_trans Z0 Kc2.1
  have N2 := Fr.app N0 N2q
  refine Goes.via (next := T2.setTop (mkF m 16 #[sr a1, si (0 : Int32), si (4 : Int32)] [(.ref t2)])) st2 ?_
  obtain ⟨fs, hr, hrun, hended, hW, hsame⟩ := X2.leave (v := some (.ref t2)) (fun h => by rw [Bd.returns] at h; cases h)
  refine ⟨_, _, ?_, hrun, hended, _, _, rfl, ?_, ⟨_, rfl⟩, hW, hsame.mono (by decide) (by decide)⟩
  · exact retOut X2 hx (t := (.array .byte)) Bd.returns rfl (Or.inr (Or.inr (Or.inr (Or.inr ⟨rfl, rfl, rfl⟩)))) (hb hby d44_16) hr
  · show Q44 Z x0 x1 x2 x3 h0 n0 _ T2.heap _
    exact ⟨t2, _, rfl, N2, gt2, sz_t2, K2, Vc2⟩
theorem d39_0 : decode jdk_42_method_150_code 0 = .ok (.aload_n 0, 1) := by decide +kernel
theorem d39_1 : decode jdk_42_method_150_code 1 = .ok (.invokespecial 1, 3) := by decide +kernel
theorem d39_4 : decode jdk_42_method_150_code 4 = .ok (.aload_n 1, 1) := by decide +kernel
theorem d39_5 : decode jdk_42_method_150_code 5 = .ok (.invokevirtual 552, 3) := by decide +kernel
theorem d39_8 : decode jdk_42_method_150_code 8 = .ok (.astore_n 3, 1) := by decide +kernel
theorem d39_9 : decode jdk_42_method_150_code 9 = .ok (.aload_n 1, 1) := by decide +kernel
theorem d39_10 : decode jdk_42_method_150_code 10 = .ok (.invokevirtual 549, 3) := by decide +kernel
theorem d39_13 : decode jdk_42_method_150_code 13 = .ok (.istore 4, 2) := by decide +kernel
theorem d39_15 : decode jdk_42_method_150_code 15 = .ok (.aload_n 1, 1) := by decide +kernel
theorem d39_16 : decode jdk_42_method_150_code 16 = .ok (.invokevirtual 1047, 3) := by decide +kernel
theorem d39_19 : decode jdk_42_method_150_code 19 = .ok (.ifCond .eq 22, 3) := by decide +kernel
theorem d39_22 : decode jdk_42_method_150_code 22 = .ok (.aload_n 0, 1) := by decide +kernel
theorem d39_23 : decode jdk_42_method_150_code 23 = .ok (.iconst 0, 1) := by decide +kernel
theorem d39_24 : decode jdk_42_method_150_code 24 = .ok (.putfield 15, 3) := by decide +kernel
theorem d39_27 : decode jdk_42_method_150_code 27 = .ok (.aload_n 0, 1) := by decide +kernel
theorem d39_28 : decode jdk_42_method_150_code 28 = .ok (.aload_n 3, 1) := by decide +kernel
theorem d39_29 : decode jdk_42_method_150_code 29 = .ok (.iconst 0, 1) := by decide +kernel
theorem d39_30 : decode jdk_42_method_150_code 30 = .ok (.iload 4, 2) := by decide +kernel
theorem d39_32 : decode jdk_42_method_150_code 32 = .ok (.invokestatic 54, 3) := by decide +kernel
theorem d39_35 : decode jdk_42_method_150_code 35 = .ok (.putfield 9, 3) := by decide +kernel
theorem d39_38 : decode jdk_42_method_150_code 38 = .ok (.goto 59, 3) := by decide +kernel
theorem d39_97 : decode jdk_42_method_150_code 97 = .ok (.return_, 1) := by decide +kernel
theorem pd_22 : parseMethodDescriptor "()[B" = some ⟨[], some (.array .byte)⟩ := by decide +kernel
theorem pd_23 : parseMethodDescriptor "()Z" = some ⟨[], some .boolean⟩ := by decide +kernel
theorem ef_39 (m : MethodId) (x0 : Addr) (x1 : Addr) : entryFrame m #[(.ref x0), (.ref x1), .null] 5 = mkF m 0 #[.val (.ref x0), .val (.ref x1), .val .null, .unset, .unset] [] := by first | (simp [entryFrame, mkF, argsToLocals, Value.category]; done) | rfl
def Q39 (Z : State) (a1 : Addr) (x0 x1 x2 x3 : Int32) (h0 : Heap) (n0 : Nat) (v : Option Value) (h : Heap) (L : List Loc) : Prop := v = none ∧ Fr n0 L ∧ Keep h0 h [a1] ∧ Exa Z h a1 "java/lang/String" ∧ Fld Z h a1 "java/lang/String" "coder" "B" (.int (0 : Int32)) ∧ ∃ (t : Addr) (k : ClassId), n0 ≤ t ∧ h0.size ≤ t ∧ Fld Z h a1 "java/lang/String" "value" "[B" (.ref t) ∧ Arv Z h t k .byte (4 : Int32) [(.int x0), (.int x1), (.int x2), (.int x3)] (.int (0 : Int32))
set_option maxRecDepth 65536 in
set_option maxHeartbeats 40000000 in
theorem rm39 (l : Launch) (Z : State) (a0 : Array Value) (hw : ∀ d ∈ tables_1, d.before a0 Z = true) (ws : List Jvm.Cond) (a1 : Addr) (a2 : Addr) (tb : Addr) (kb : ClassId) (x0 x1 x2 x3 : Int32) (w0 : Int32) (rE rL eL : Addr) (kL : ClassId) (nZ : Nat) (h0 : Heap) (n0 : Nat) (Z0 : n0 ≤ h0.size) (E1 : Exa Z h0 a1 "java/lang/String") (Fv : Fld Z h0 a1 "java/lang/String" "value" "[B" .null) (Fc : Fld Z h0 a1 "java/lang/String" "coder" "B" (.int (0 : Int32))) (Eb : Exa Z h0 a2 "java/lang/StringBuilder") (Fb : Fld Z h0 a2 "java/lang/AbstractStringBuilder" "value" "[B" (.ref tb)) (Cb : Fld Z h0 a2 "java/lang/AbstractStringBuilder" "coder" "B" (.int (0 : Int32))) (Nb : Fld Z h0 a2 "java/lang/AbstractStringBuilder" "count" "I" (.int (4 : Int32))) (Vb : Arv Z h0 tb kb .byte (16 : Int32) [(.int x0), (.int x1), (.int x2), (.int x3), (.int (0 : Int32)), (.int (0 : Int32)), (.int (0 : Int32)), (.int (0 : Int32)), (.int (0 : Int32)), (.int (0 : Int32)), (.int (0 : Int32)), (.int (0 : Int32)), (.int (0 : Int32)), (.int (0 : Int32)), (.int (0 : Int32)), (.int (0 : Int32))] (.int (0 : Int32))) (g1 : n0 ≤ a1) (ne12 : a1 ≠ a2) (ne1t : a1 ≠ tb) (O0 : Old Z nZ h0) (hz : nZ ≤ n0) (St : own_St Z w0 rE rL eL kL) :
    MF l (⟨"java/lang/String", "<init>", "(Ljava/lang/AbstractStringBuilder;Ljava/lang/Void;)V"⟩ : MethodName) jdk_42_method_150_code 5 none ws ({ frames := 3, cells := 1, slots := 4, locals := 49 } : Room) #[(.ref a1), (.ref a2), .null] Z h0 (Q39 Z a1 x0 x1 x2 x3 h0 n0) := by
  refine MetFree.of_bodySF (plainFor_of_name pn_1) hisR ?_
  intro p e s m args below meth c s₁ Bd hml0 hP hK
  obtain ⟨rfl, hZ, hh⟩ := hP
  have hx := Bd.exec
  have hby := Bd.bytes
  have hml : c.maxLocals = 5 := hml0
  have hown : s.vm.findClass "java/lang/String" = some m.cls := findClass_of_methodNamed Bd.named
  have hnm := (name_of_methodNamed Bd.named Bd.method).1
  have X0 : Stand p l e ({ frames := 3, cells := 1, slots := 4, locals := 49 } : Room) s m #[(.ref a1), (.ref a2), .null] below meth c s₁ [] 0 0 := Stand.of_body Bd
  have e0 : s₁.heap = h0 := by rw [← hh, Bd.state]; rfl
  have N0 := Fr.nil n0
  refine Goes.via (next := s₁.setTop (mkF m 0 #[.val (.ref a1), .val (.ref a2), .val .null, .unset, .unset] [])) (fun t k => castTop (ef_39 m a1 a2) k) ?_
  refine Goes.via (next := s₁.setTop (mkF m 1 #[sr a1, sr a2, .val .null, .unset, .unset] [(.ref a1)])) (fun t k => XS.aloadN X0.here hx rfl (hb hby d39_0) rfl rfl k) ?_
  obtain ⟨T1, X1, e1, st1⟩ := initO X0 hx hZ hown (Wd hw 15 rfl) (Wd hw 16 rfl) (Wd hw 17 rfl) e0 (g := (mkF m 1 #[sr a1, sr a2, .val .null, .unset, .unset] [(.ref a1)])) rfl (by rw [hml]; rfl) rfl (hb hby d39_1) (by decide) (W := 0) (by show 2 * 0 + _ ≤ _; exact Nat.le_of_eq rfl) (by decide)
  refine Goes.via (next := T1.setTop (mkF m 4 #[sr a1, sr a2, .val .null, .unset, .unset] [])) st1 ?_
  refine Goes.via (next := T1.setTop (mkF m 5 #[sr a1, sr a2, .val .null, .unset, .unset] [(.ref a2)])) (fun t k => XS.aloadN X1.here hx rfl (hb hby d39_4) rfl rfl k) ?_
  obtain ⟨cq2, kq2, q2a, q2b, q2c⟩ := isOf hZ e1 Eb
  obtain ⟨_, _, ⟨T2, L2, k2, n2⟩, -, X2, ⟨Lc2, hQ2, l2, y2, z2⟩, st2⟩ := X1.virtualBack hx (y := (⟨"java/lang/AbstractStringBuilder", "getValue", "()[B"⟩ : MethodName)) (z := (⟨"java/lang/AbstractStringBuilder", "getValue", "()[B"⟩ : MethodName)) hown (mvT hZ (Wd hw 239 rfl)) (mvT hZ (Wd hw 240 rfl)) (notFace_of_selects (args := #[]) (mvT hZ (Wd hw 242 rfl))) (mvT hZ (Wd hw 242 rfl)) (mvT hZ (Wd hw 241 rfl)) (by decide) (backOf (W := 0) (rm40 l Z a0 hw [] a2 tb h0 n0 Z0 Fb) hZ (Wd hw 243 rfl) (Wd hw 169 rfl) (by decide) (by decide)) q2a q2c (g := (mkF m 5 #[sr a1, sr a2, .val .null, .unset, .unset] [(.ref a2)])) rfl (by rw [hml]; rfl) (Steps.refl _) (argsL := []) (rest := []) (lenOf pd_22 rfl) rfl (by show 2 * 0 + _ ≤ _; exact Nat.le_of_eq rfl) (hb hby d39_5) (fun _ _ => ⟨rfl, e1, (by decide : 0 + 0 ≤ _), (by decide : 0 + 0 ≤ _)⟩)
  dsimp only [Pt.U, Pt.locs, Pt.cells, Pt.slots] at X2 l2 y2 z2 st2 hQ2
  subst l2 y2 z2
  obtain ⟨rfl, N2q, er2⟩ := hQ2
  have e2 : T2.heap = h0 := er2
  have N2 := Fr.app N0 N2q
  refine Goes.via (next := T2.setTop (mkF m 8 #[sr a1, sr a2, .val .null, .unset, .unset] [(.ref tb)])) (fun t k => st2.trans k) ?_
  refine Goes.via (next := T2.setTop (mkF m 10 #[sr a1, sr a2, .val .null, sr tb, .unset] [(.ref a2)])) (fun t k => XS.astoreN X2.here hx rfl (hb hby d39_8) rfl rfl (l' := #[sr a1, sr a2, .val .null, sr tb, .unset]) rfl (XS.aloadN X2.here hx rfl (hb hby d39_9) rfl rfl k)) ?_
  obtain ⟨Lw3, X3w, N3w⟩ := ownPack X2 N2
  obtain ⟨cq4, kq4, q4a, q4b, q4c⟩ := isOf hZ e2 Eb
  obtain ⟨_, _, ⟨T4, L4, k4, n4⟩, -, X4, ⟨Lc4, hQ4, l4, y4, z4⟩, st4⟩ := X3w.virtualBack hx (y := (⟨"java/lang/AbstractStringBuilder", "length", "()I"⟩ : MethodName)) (z := (⟨"java/lang/StringBuilder", "length", "()I"⟩ : MethodName)) hown (mvT hZ (Wd hw 244 rfl)) (mvT hZ (Wd hw 245 rfl)) (ownNotFace (args := #[]) (mvT hZ (Wd hw 203 rfl)) rfl) (mvT hZ (Wd hw 247 rfl)) (mvT hZ (Wd hw 248 rfl)) (by decide) (backOf (W := 0) (rm41 l Z a0 hw [] a2 (4 : Int32) h0 n0 Z0 Eb Nb) hZ (Wd hw 249 rfl) (Wd hw 161 rfl) (by decide) (by decide)) q4a q4c (g := (mkF m 10 #[sr a1, sr a2, .val .null, sr tb, .unset] [(.ref a2)])) rfl (by rw [hml]; rfl) (Steps.refl _) (argsL := []) (rest := []) (lenOf pd_16 rfl) rfl (by show 2 * 0 + _ ≤ _; exact Nat.le_of_eq rfl) (hb hby d39_10) (fun _ _ => ⟨rfl, e2, (by decide : 0 + 0 ≤ _), (by decide : 0 + 0 ≤ _)⟩)
  dsimp only [Pt.U, Pt.locs, Pt.cells, Pt.slots] at X4 l4 y4 z4 st4 hQ4
  subst l4 y4 z4
  obtain ⟨rfl, N4q, er4⟩ := hQ4
  have e4 : T4.heap = h0 := er4
  have N4 := Fr.app N3w N4q
  refine Goes.via (next := T4.setTop (mkF m 13 #[sr a1, sr a2, .val .null, sr tb, .unset] [(.int (4 : Int32))])) (fun t k => st4.trans k) ?_
  refine Goes.via (next := T4.setTop (mkF m 16 #[sr a1, sr a2, .val .null, sr tb, si (4 : Int32)] [(.ref a2)])) (fun t k => XS.istore X4.here hx rfl (hb hby d39_13) rfl (l' := #[sr a1, sr a2, .val .null, sr tb, si (4 : Int32)]) rfl (XS.aloadN X4.here hx rfl (hb hby d39_15) rfl rfl k)) ?_
  obtain ⟨Lw5, X5w, N5w⟩ := ownPack X4 N4
  obtain ⟨cq6, kq6, q6a, q6b, q6c⟩ := isOf hZ e4 Eb
  obtain ⟨_, _, ⟨T6, L6, k6, n6⟩, -, X6, ⟨Lc6, hQ6, l6, y6, z6⟩, st6⟩ := X5w.virtualBack hx (y := (⟨"java/lang/AbstractStringBuilder", "isLatin1", "()Z"⟩ : MethodName)) (z := (⟨"java/lang/AbstractStringBuilder", "isLatin1", "()Z"⟩ : MethodName)) hown (mvT hZ (Wd hw 252 rfl)) (mvT hZ (Wd hw 253 rfl)) (notFace_of_selects (args := #[]) (mvT hZ (Wd hw 255 rfl))) (mvT hZ (Wd hw 255 rfl)) (mvT hZ (Wd hw 254 rfl)) (by decide) (backOf (W := 0) (rm43 l Z a0 hw [] a2 w0 rE rL eL kL nZ h0 n0 Z0 Cb O0 hz St) hZ (Wd hw 256 rfl) (Wd hw 169 rfl) (by decide) (by decide)) q6a q6c (g := (mkF m 16 #[sr a1, sr a2, .val .null, sr tb, si (4 : Int32)] [(.ref a2)])) rfl (by rw [hml]; rfl) (Steps.refl _) (argsL := []) (rest := []) (lenOf pd_23 rfl) rfl (by show 2 * 0 + _ ≤ _; exact Nat.le_of_eq rfl) (hb hby d39_16) (fun _ _ => ⟨rfl, e4, (by decide : 0 + 0 ≤ _), (by decide : 0 + 0 ≤ _)⟩)
  dsimp only [Pt.U, Pt.locs, Pt.cells, Pt.slots] at X6 l6 y6 z6 st6 hQ6
  subst l6 y6 z6
  obtain ⟨rfl, N6q, er6⟩ := hQ6
  have e6 : T6.heap = h0 := er6
  have N6 := Fr.app N5w N6q
  refine Goes.via (next := T6.setTop (mkF m 19 #[sr a1, sr a2, .val .null, sr tb, si (4 : Int32)] [(.int (1 : Int32))])) (fun t k => st6.trans k) ?_
  refine Goes.via (next := T6.setTop (mkF m 22 #[sr a1, sr a2, .val .null, sr tb, si (4 : Int32)] [])) (fun t k => XS.ifNo X6.here hx rfl (hb hby d39_19) rfl ((if0 _ _).trans (feq (show ¬ ((1 : Int32) = (0 : Int32)) from (by decide))).1) k) ?_
  refine Goes.via (next := T6.setTop (mkF m 24 #[sr a1, sr a2, .val .null, sr tb, si (4 : Int32)] [(.int (0 : Int32)), (.ref a1)])) (fun t k => XS.aloadN X6.here hx rfl (hb hby d39_22) rfl rfl (XS.iconst X6.here hx rfl (hb hby d39_23) k)) ?_
  obtain ⟨T7, h7, X7, e7, W7, st7⟩ := putFN X6 hx hZ hown (Wd hw 30 rfl) Via.refl e6 Fc E1 (Or.inr ⟨(Wd hw 31 rfl), rfl, hnm⟩) (Wd hw 5 rfl) (ty := .byte) (v' := (.int (0 : Int32))) (by decide) rfl (by decide) (g := (mkF m 24 #[sr a1, sr a2, .val .null, sr tb, si (4 : Int32)] [(.int (0 : Int32)), (.ref a1)])) rfl rfl (hb hby d39_24)
  have Fw7 := Fc.same W7
  have F7_36 := E1.wr W7
  have F7_37 := Fv.other W7 (Or.inr (slot_ne (Or.inr (Wd hw 33 rfl)) (Or.inr (Wd hw 31 rfl)) (by decide) (t := (.array .byte)) (t' := .byte) (by decide) (by decide)))
  have F7_38 := Eb.wr W7
  have F7_39 := Fb.other W7 (Or.inl (Ne.symm ne12))
  have F7_40 := Cb.other W7 (Or.inl (Ne.symm ne12))
  have F7_41 := Nb.other W7 (Or.inl (Ne.symm ne12))
  have F7_42 := Vb.other W7 (Ne.symm ne1t)
  have K7 : Keep h0 h7 [a1] := (Keep.refl h0 [a1]).wr W7 (Or.inl (List.mem_of_getElem? (i := 0) rfl))
  have Z7 : n0 ≤ h7.size := Nat.le_trans Z0 (Keep.of_wr W7).1
  have N7 := Fr.snoc X7 N6 g1
  have O7 := O0.wr W7 (Nat.le_trans hz g1)
  refine Goes.via (next := T7.setTop (mkF m 27 #[sr a1, sr a2, .val .null, sr tb, si (4 : Int32)] [])) st7 ?_
  refine Goes.via (next := T7.setTop (mkF m 32 #[sr a1, sr a2, .val .null, sr tb, si (4 : Int32)] [(.int (4 : Int32)), (.int (0 : Int32)), (.ref tb), (.ref a1)])) (fun t k => XS.aloadN X7.here hx rfl (hb hby d39_27) rfl rfl (XS.aloadN X7.here hx rfl (hb hby d39_28) rfl rfl (XS.iconst X7.here hx rfl (hb hby d39_29) (XS.iload X7.here hx rfl (hb hby d39_30) rfl k)))) ?_
  obtain ⟨Lw8, X8w, N8w⟩ := ownPack X7 N7
  obtain ⟨_, _, ⟨T9, L9, k9, n9⟩, -, X9, ⟨Lc9, hQ9, l9, y9, z9⟩, st9⟩ := Jvm.LawKit.callS X8w hx (y := (⟨"java/util/Arrays", "copyOfRange", "([BII)[B"⟩ : MethodName)) hown (mvT hZ (Wd hw 257 rfl)) (mvT hZ (Wd hw 258 rfl)) (mvT hZ (Wd hw 259 rfl)) (mvT hZ (Wd hw 260 rfl)) (by decide) (backOf (W := 1) (rm44 l Z a0 hw [] tb kb x0 x1 x2 x3 h7 n0 Z7 F7_42) hZ (Wd hw 260 rfl) (Wd hw 259 rfl) (by decide) (by decide)) (g := (mkF m 32 #[sr a1, sr a2, .val .null, sr tb, si (4 : Int32)] [(.int (4 : Int32)), (.int (0 : Int32)), (.ref tb), (.ref a1)])) rfl (by rw [hml]; rfl) (argsL := [(.ref tb), (.int (0 : Int32)), (.int (4 : Int32))]) (rest := [(.ref a1)]) (lenOf pd_21 rfl) rfl (by show 2 * 0 + _ ≤ _; exact Nat.le_of_eq rfl) (hb hby d39_32) (fun _ _ => ⟨rfl, e7, (by decide : 0 + 1 ≤ _), (by decide : 0 + 4 ≤ _)⟩)
  dsimp only [Pt.U, Pt.locs, Pt.cells, Pt.slots] at X9 l9 y9 z9 st9 hQ9
  subst l9 y9 z9
  obtain ⟨t9, kt9, rfl, N9q, gt9, zt9, Kc9, Vc9⟩ := hQ9
  have lt_a1_t9 : a1 < t9 := Nat.lt_of_lt_of_le F7_36.lt zt9
  have lt_a2_t9 : a2 < t9 := Nat.lt_of_lt_of_le F7_38.lt zt9
  have lt_tb_t9 : tb < t9 := Nat.lt_of_lt_of_le F7_42.lt zt9
  have sz_t9 : h0.size ≤ t9 := Nat.le_trans K7.1 zt9
  have F9_58 := F7_36.keep Kc9
  have F9_59 := F7_37.keep Kc9 List.not_mem_nil
  have F9_60 := F7_38.keep Kc9
  have F9_61 := F7_39.keep Kc9 List.not_mem_nil
  have F9_62 := F7_40.keep Kc9 List.not_mem_nil
  have F9_63 := F7_41.keep Kc9 List.not_mem_nil
  have F9_64 := F7_42.keep Kc9 List.not_mem_nil
  have F9_65 := Fw7.keep Kc9 List.not_mem_nil
  have K9 : Keep h0 T9.heap [a1] := K7.trans Kc9 (fun x hx => nomatch hx)
  have Z9 : n0 ≤ T9.heap.size := Nat.le_trans Z7 Kc9.1
  have O9 := O7.keep Kc9 (fun x hx => nomatch hx)
  have N9 := Fr.app N8w N9q
  refine Goes.via (next := T9.setTop (mkF m 35 #[sr a1, sr a2, .val .null, sr tb, si (4 : Int32)] [(.ref t9), (.ref a1)])) st9 ?_
  obtain ⟨T10, h10, X10, e10, W10, st10⟩ := putF X9 hx hZ hown (host := "") (Or.inl (Wd hw 32 rfl)) Via.refl rfl F9_59 F9_58 (Or.inr ⟨(Wd hw 33 rfl), rfl, hnm⟩) (Wd hw 5 rfl) (ty := (.array .byte)) (by decide) rfl rfl (g := (mkF m 35 #[sr a1, sr a2, .val .null, sr tb, si (4 : Int32)] [(.ref t9), (.ref a1)])) rfl rfl (hb hby d39_35)
  have Fw10 := F9_59.same W10
  have F10_73 := F9_58.wr W10
  have F10_74 := F9_60.wr W10
  have F10_75 := F9_61.other W10 (Or.inl (Ne.symm ne12))
  have F10_76 := F9_62.other W10 (Or.inl (Ne.symm ne12))
  have F10_77 := F9_63.other W10 (Or.inl (Ne.symm ne12))
  have F10_78 := F9_64.other W10 (Ne.symm ne1t)
  have F10_79 := F9_65.other W10 (Or.inr (slot_ne (Or.inr (Wd hw 31 rfl)) (Or.inr (Wd hw 33 rfl)) (by decide) (t := .byte) (t' := (.array .byte)) (by decide) (by decide)))
  have F10_80 := Vc9.other W10 (Nat.ne_of_gt lt_a1_t9)
  have K10 : Keep h0 h10 [a1] := K9.wr W10 (Or.inl (List.mem_of_getElem? (i := 0) rfl))
  have Z10 : n0 ≤ h10.size := Nat.le_trans Z9 (Keep.of_wr W10).1
  have N10 := Fr.snoc X10 N9 g1
  have O10 := O9.wr W10 (Nat.le_trans hz g1)
  refine Goes.via (next := T10.setTop (mkF m 38 #[sr a1, sr a2, .val .null, sr tb, si (4 : Int32)] [])) st10 ?_
  refine Goes.via (next := T10.setTop (mkF m 97 #[sr a1, sr a2, .val .null, sr tb, si (4 : Int32)] [])) (fun t k => XS.goto X10.here hx rfl (pc0 := 38) (pc' := 97) rfl (hb hby d39_38) (by decide) (by decide) k) ?_
  obtain ⟨fs, hr, hrun, hended, hW, hsame⟩ := X10.leave (v := none) (fun _ => rfl)
  refine ⟨_, _, ?_, hrun, hended, _, _, rfl, ?_, ⟨_, rfl⟩, hW, hsame.mono (by decide) (by decide)⟩
  · exact X10.returnOut hx Bd.returns (hb hby d39_97) hr
  · show Q39 Z a1 x0 x1 x2 x3 h0 n0 _ T10.heap _
    rw [e10]
    exact ⟨rfl, N10, K10, F10_73, F10_79, t9, _, gt9, sz_t9, Fw10, F10_80⟩
theorem d38_0 : decode jdk_42_method_53_code 0 = .ok (.aload_n 0, 1) := by decide +kernel
theorem d38_1 : decode jdk_42_method_53_code 1 = .ok (.aload_n 1, 1) := by decide +kernel
theorem d38_2 : decode jdk_42_method_53_code 2 = .ok (.aconst_null, 1) := by decide +kernel
theorem d38_3 : decode jdk_42_method_53_code 3 = .ok (.invokespecial 489, 3) := by decide +kernel
theorem d38_6 : decode jdk_42_method_53_code 6 = .ok (.return_, 1) := by decide +kernel
theorem pd_24 : parseMethodDescriptor "(Ljava/lang/AbstractStringBuilder;Ljava/lang/Void;)V" = some ⟨[(.object "java/lang/AbstractStringBuilder"), (.object "java/lang/Void")], none⟩ := by decide +kernel
theorem ef_38 (m : MethodId) (x0 : Addr) (x1 : Addr) : entryFrame m #[(.ref x0), (.ref x1)] 2 = mkF m 0 #[.val (.ref x0), .val (.ref x1)] [] := by first | (simp [entryFrame, mkF, argsToLocals, Value.category]; done) | rfl
def Q38 (Z : State) (a1 : Addr) (x0 x1 x2 x3 : Int32) (h0 : Heap) (n0 : Nat) (v : Option Value) (h : Heap) (L : List Loc) : Prop := v = none ∧ Fr n0 L ∧ Keep h0 h [a1] ∧ Exa Z h a1 "java/lang/String" ∧ Fld Z h a1 "java/lang/String" "coder" "B" (.int (0 : Int32)) ∧ ∃ (t : Addr) (k : ClassId), n0 ≤ t ∧ h0.size ≤ t ∧ Fld Z h a1 "java/lang/String" "value" "[B" (.ref t) ∧ Arv Z h t k .byte (4 : Int32) [(.int x0), (.int x1), (.int x2), (.int x3)] (.int (0 : Int32))
set_option maxRecDepth 65536 in
set_option maxHeartbeats 40000000 in
theorem rm38 (l : Launch) (Z : State) (a0 : Array Value) (hw : ∀ d ∈ tables_1, d.before a0 Z = true) (ws : List Jvm.Cond) (a1 : Addr) (a2 : Addr) (tb : Addr) (kb : ClassId) (x0 x1 x2 x3 : Int32) (w0 : Int32) (rE rL eL : Addr) (kL : ClassId) (nZ : Nat) (h0 : Heap) (n0 : Nat) (Z0 : n0 ≤ h0.size) (E1 : Exa Z h0 a1 "java/lang/String") (Fv : Fld Z h0 a1 "java/lang/String" "value" "[B" .null) (Fc : Fld Z h0 a1 "java/lang/String" "coder" "B" (.int (0 : Int32))) (Eb : Exa Z h0 a2 "java/lang/StringBuilder") (Fb : Fld Z h0 a2 "java/lang/AbstractStringBuilder" "value" "[B" (.ref tb)) (Cb : Fld Z h0 a2 "java/lang/AbstractStringBuilder" "coder" "B" (.int (0 : Int32))) (Nb : Fld Z h0 a2 "java/lang/AbstractStringBuilder" "count" "I" (.int (4 : Int32))) (Vb : Arv Z h0 tb kb .byte (16 : Int32) [(.int x0), (.int x1), (.int x2), (.int x3), (.int (0 : Int32)), (.int (0 : Int32)), (.int (0 : Int32)), (.int (0 : Int32)), (.int (0 : Int32)), (.int (0 : Int32)), (.int (0 : Int32)), (.int (0 : Int32)), (.int (0 : Int32)), (.int (0 : Int32)), (.int (0 : Int32)), (.int (0 : Int32))] (.int (0 : Int32))) (g1 : n0 ≤ a1) (ne12 : a1 ≠ a2) (ne1t : a1 ≠ tb) (O0 : Old Z nZ h0) (hz : nZ ≤ n0) (St : own_St Z w0 rE rL eL kL) :
    MF l (⟨"java/lang/String", "<init>", "(Ljava/lang/StringBuilder;)V"⟩ : MethodName) jdk_42_method_53_code 2 none ws ({ frames := 4, cells := 1, slots := 4, locals := 65 } : Room) #[(.ref a1), (.ref a2)] Z h0 (Q38 Z a1 x0 x1 x2 x3 h0 n0) := by
  refine MetFree.of_bodySF (plainFor_of_name pn_1) hisR ?_
  intro p e s m args below meth c s₁ Bd hml0 hP hK
  obtain ⟨rfl, hZ, hh⟩ := hP
  have hx := Bd.exec
  have hby := Bd.bytes
  have hml : c.maxLocals = 2 := hml0
  have hown : s.vm.findClass "java/lang/String" = some m.cls := findClass_of_methodNamed Bd.named
  have hnm := (name_of_methodNamed Bd.named Bd.method).1
  have X0 : Stand p l e ({ frames := 4, cells := 1, slots := 4, locals := 65 } : Room) s m #[(.ref a1), (.ref a2)] below meth c s₁ [] 0 0 := Stand.of_body Bd
  have e0 : s₁.heap = h0 := by rw [← hh, Bd.state]; rfl
  have N0 := Fr.nil n0
  refine Goes.via (next := s₁.setTop (mkF m 0 #[.val (.ref a1), .val (.ref a2)] [])) (fun t k => castTop (ef_38 m a1 a2) k) ?_
  refine Goes.via (next := s₁.setTop (mkF m 3 #[sr a1, sr a2] [.null, (.ref a2), (.ref a1)])) (fun t k => XS.aloadN X0.here hx rfl (hb hby d38_0) rfl rfl (XS.aloadN X0.here hx rfl (hb hby d38_1) rfl rfl (XS.aconstNull X0.here hx rfl (hb hby d38_2) k))) ?_
  obtain ⟨_, _, ⟨T1, L1, k1, n1⟩, -, X1, ⟨Lc1, hQ1, l1, y1, z1⟩, st1⟩ := X0.specialBack hx (y := (⟨"java/lang/String", "<init>", "(Ljava/lang/AbstractStringBuilder;Ljava/lang/Void;)V"⟩ : MethodName)) rfl hown (mvT hZ (Wd hw 236 rfl)) (mvT hZ (Wd hw 237 rfl)) (mvT hZ (Wd hw 238 rfl)) (by decide) (backOf (W := 0) (rm39 l Z a0 hw [] a1 a2 tb kb x0 x1 x2 x3 w0 rE rL eL kL nZ h0 n0 Z0 E1 Fv Fc Eb Fb Cb Nb Vb g1 ne12 ne1t O0 hz St) hZ (Wd hw 238 rfl) (Wd hw 6 rfl) (by decide) (by decide)) (g := (mkF m 3 #[sr a1, sr a2] [.null, (.ref a2), (.ref a1)])) rfl (by rw [hml]; rfl) (Steps.refl _) (a := a1) (argsL := [(.ref a2), .null]) (rest := []) (lenOf pd_24 rfl) rfl (by show 2 * 0 + _ ≤ _; exact Nat.le_of_eq rfl) (hb hby d38_3) (fun _ _ => ⟨rfl, e0, (by decide : 0 + 1 ≤ _), (by decide : 0 + 4 ≤ _)⟩)
  dsimp only [Pt.U, Pt.locs, Pt.cells, Pt.slots] at X1 l1 y1 z1 st1 hQ1
  subst l1 y1 z1
  obtain ⟨rfl, N1q, Kc1, Ec1, Cc1, t1, kt1, gt1, zt1, Vq1, Vc1⟩ := hQ1
  have lt_a1_t1 : a1 < t1 := Nat.lt_of_lt_of_le E1.lt zt1
  have lt_a2_t1 : a2 < t1 := Nat.lt_of_lt_of_le Eb.lt zt1
  have lt_tb_t1 : tb < t1 := Nat.lt_of_lt_of_le Vb.lt zt1
  have sz_t1 : h0.size ≤ t1 := Nat.le_trans (Keep.refl h0 [a1]).1 zt1
  have F1_9 := E1.keep Kc1
  have F1_10 := Eb.keep Kc1
  have F1_11 := Fb.keep Kc1 (fun q => (Ne.symm ne12) (List.mem_singleton.mp q))
  have F1_12 := Cb.keep Kc1 (fun q => (Ne.symm ne12) (List.mem_singleton.mp q))
  have F1_13 := Nb.keep Kc1 (fun q => (Ne.symm ne12) (List.mem_singleton.mp q))
  have F1_14 := Vb.keep Kc1 (fun q => (Ne.symm ne1t) (List.mem_singleton.mp q))
  have K1 : Keep h0 T1.heap [a1] := (Keep.refl h0 [a1]).trans Kc1 (fun x hx => by cases List.mem_singleton.mp hx; exact Or.inl (List.mem_of_getElem? (i := 0) rfl))
  have Z1 : n0 ≤ T1.heap.size := Nat.le_trans Z0 Kc1.1
  have O1 := O0.keep Kc1 (fun x hx => by cases List.mem_singleton.mp hx; exact (Nat.le_trans hz g1))
  have N1 := Fr.app N0 N1q
  refine Goes.via (next := T1.setTop (mkF m 6 #[sr a1, sr a2] [])) (fun t k => st1.trans k) ?_
  obtain ⟨fs, hr, hrun, hended, hW, hsame⟩ := X1.leave (v := none) (fun _ => rfl)
  refine ⟨_, _, ?_, hrun, hended, _, _, rfl, ?_, ⟨_, rfl⟩, hW, hsame.mono (by decide) (by decide)⟩
  · exact X1.returnOut hx Bd.returns (hb hby d38_6) hr
  · show Q38 Z a1 x0 x1 x2 x3 h0 n0 _ T1.heap _
    exact ⟨rfl, N1, K1, F1_9, Cc1, t1, _, gt1, sz_t1, Vq1, Vc1⟩
theorem d37_0 : decode jdk_67_method_42_code 0 = .ok (.new 18, 3) := by decide +kernel
theorem d37_3 : decode jdk_67_method_42_code 3 = .ok (.dup, 1) := by decide +kernel
theorem d37_4 : decode jdk_67_method_42_code 4 = .ok (.aload_n 0, 1) := by decide +kernel
theorem d37_5 : decode jdk_67_method_42_code 5 = .ok (.invokespecial 137, 3) := by decide +kernel
theorem d37_8 : decode jdk_67_method_42_code 8 = .ok (.areturn, 1) := by decide +kernel
theorem pd_25 : parseMethodDescriptor "(Ljava/lang/StringBuilder;)V" = some ⟨[(.object "java/lang/StringBuilder")], none⟩ := by decide +kernel
theorem ef_37 (m : MethodId) (x0 : Addr) : entryFrame m #[(.ref x0)] 1 = mkF m 0 #[.val (.ref x0)] [] := by first | (simp [entryFrame, mkF, argsToLocals, Value.category]; done) | rfl
def Q37 (Z : State) (x0 x1 x2 x3 : Int32) (h0 : Heap) (n0 : Nat) (v : Option Value) (h : Heap) (L : List Loc) : Prop := ∃ (r t : Addr) (k : ClassId), v = some (.ref r) ∧ Fr n0 L ∧ n0 ≤ r ∧ h0.size ≤ r ∧ Keep h0 h [] ∧ Exa Z h r "java/lang/String" ∧ Fld Z h r "java/lang/String" "coder" "B" (.int (0 : Int32)) ∧ Fld Z h r "java/lang/String" "value" "[B" (.ref t) ∧ Arv Z h t k .byte (4 : Int32) [(.int x0), (.int x1), (.int x2), (.int x3)] (.int (0 : Int32))
set_option maxRecDepth 65536 in
set_option maxHeartbeats 40000000 in
theorem rm37 (l : Launch) (Z : State) (a0 : Array Value) (hw : ∀ d ∈ tables_1, d.before a0 Z = true) (ws : List Jvm.Cond) (a1 : Addr) (tb : Addr) (kb : ClassId) (x0 x1 x2 x3 : Int32) (w0 : Int32) (rE rL eL : Addr) (kL : ClassId) (nZ : Nat) (h0 : Heap) (n0 : Nat) (Z0 : n0 ≤ h0.size) (Eb : Exa Z h0 a1 "java/lang/StringBuilder") (Fb : Fld Z h0 a1 "java/lang/AbstractStringBuilder" "value" "[B" (.ref tb)) (Cb : Fld Z h0 a1 "java/lang/AbstractStringBuilder" "coder" "B" (.int (0 : Int32))) (Nb : Fld Z h0 a1 "java/lang/AbstractStringBuilder" "count" "I" (.int (4 : Int32))) (Vb : Arv Z h0 tb kb .byte (16 : Int32) [(.int x0), (.int x1), (.int x2), (.int x3), (.int (0 : Int32)), (.int (0 : Int32)), (.int (0 : Int32)), (.int (0 : Int32)), (.int (0 : Int32)), (.int (0 : Int32)), (.int (0 : Int32)), (.int (0 : Int32)), (.int (0 : Int32)), (.int (0 : Int32)), (.int (0 : Int32)), (.int (0 : Int32))] (.int (0 : Int32))) (O0 : Old Z nZ h0) (hz : nZ ≤ n0) (St : own_St Z w0 rE rL eL kL) :
    MF l (⟨"java/lang/StringBuilder", "toString", "()Ljava/lang/String;"⟩ : MethodName) jdk_67_method_42_code 1 (some (.object "java/lang/String")) ws ({ frames := 5, cells := 2, slots := 8, locals := 79 } : Room) #[(.ref a1)] Z h0 (Q37 Z x0 x1 x2 x3 h0 n0) := by
  refine MetFree.of_bodySF (plainFor_of_name pn_14) hisR ?_
  intro p e s m args below meth c s₁ Bd hml0 hP hK
  obtain ⟨rfl, hZ, hh⟩ := hP
  have hx := Bd.exec
  have hby := Bd.bytes
  have hml : c.maxLocals = 1 := hml0
  have hown : s.vm.findClass "java/lang/StringBuilder" = some m.cls := findClass_of_methodNamed Bd.named
  have hnm := (name_of_methodNamed Bd.named Bd.method).1
  have X0 : Stand p l e ({ frames := 5, cells := 2, slots := 8, locals := 79 } : Room) s m #[(.ref a1)] below meth c s₁ [] 0 0 := Stand.of_body Bd
  have e0 : s₁.heap = h0 := by rw [← hh, Bd.state]; rfl
  have N0 := Fr.nil n0
  refine Goes.via (next := s₁.setTop (mkF m 0 #[.val (.ref a1)] [])) (fun t k => castTop (ef_37 m a1) k) ?_
  obtain ⟨T1, h1, X1, e1, E1, A1, D1, -, st1⟩ := newO X0 hx hZ hown (Wd hw 232 rfl) (Wd hw 5 rfl) (Wd hw 6 rfl) e0 (g := (mkF m 0 #[sr a1] [])) rfl (hb hby d37_0) (by decide) (by decide)
  obtain ⟨b1, g1⟩ : ∃ z, z = h0.size := ⟨_, rfl⟩
  rw [← g1] at A1 D1 st1
  have lt_a1_b1 : a1 < b1 := Nat.lt_of_lt_of_le Eb.lt (Nat.le_of_eq g1.symm)
  have lt_tb_b1 : tb < b1 := Nat.lt_of_lt_of_le Vb.lt (Nat.le_of_eq g1.symm)
  have ge_b1 : n0 ≤ b1 := Nat.le_trans Z0 (Nat.le_of_eq g1.symm)
  have sz_b1 : h0.size ≤ b1 := Nat.le_trans (Keep.refl h0 []).1 (Nat.le_of_eq g1.symm)
  have F1_7 := Eb.ext E1
  have F1_8 := Fb.ext E1
  have F1_9 := Cb.ext E1
  have F1_10 := Nb.ext E1
  have F1_11 := Vb.ext E1
  have K1 : Keep h0 h1 [] := (Keep.refl h0 []).ext E1
  have Z1 : n0 ≤ h1.size := Nat.le_trans Z0 E1.1
  have O1 := O0.ext E1
  have F1_coder : Fld Z h1 b1 "java/lang/String" "coder" "B" (.int (0 : Int32)) := D1 (Or.inr (Wd hw 31 rfl)) (ty := .byte) (by decide)
  have F1_value : Fld Z h1 b1 "java/lang/String" "value" "[B" .null := D1 (Or.inr (Wd hw 33 rfl)) (ty := (.array .byte)) (by decide)
  refine Goes.via (next := T1.setTop (mkF m 3 #[sr a1] [(.ref b1)])) st1 ?_
  refine Goes.via (next := T1.setTop (mkF m 5 #[sr a1] [(.ref a1), (.ref b1), (.ref b1)])) (fun t k => XS.dup X1.here hx rfl (hb hby d37_3) rfl rfl (XS.aloadN X1.here hx rfl (hb hby d37_4) rfl rfl k)) ?_
  obtain ⟨_, _, ⟨T2, L2, k2, n2⟩, -, X2, ⟨Lc2, hQ2, l2, y2, z2⟩, st2⟩ := X1.specialBack hx (y := (⟨"java/lang/String", "<init>", "(Ljava/lang/StringBuilder;)V"⟩ : MethodName)) rfl hown (mvT hZ (Wd hw 233 rfl)) (mvT hZ (Wd hw 234 rfl)) (mvT hZ (Wd hw 235 rfl)) (by decide) (backOf (W := 1) (rm38 l Z a0 hw [] b1 a1 tb kb x0 x1 x2 x3 w0 rE rL eL kL nZ h1 n0 Z1 A1 F1_value F1_coder F1_7 F1_8 F1_9 F1_10 F1_11 ge_b1 (Nat.ne_of_gt lt_a1_b1) (Nat.ne_of_gt lt_tb_b1) O1 hz St) hZ (Wd hw 235 rfl) (Wd hw 6 rfl) (by decide) (by decide)) (g := (mkF m 5 #[sr a1] [(.ref a1), (.ref b1), (.ref b1)])) rfl (by rw [hml]; rfl) (Steps.refl _) (a := b1) (argsL := [(.ref a1)]) (rest := [(.ref b1)]) (lenOf pd_25 rfl) rfl (by show 2 * 0 + _ ≤ _; exact Nat.le_of_eq rfl) (hb hby d37_5) (fun _ _ => ⟨rfl, e1, (by decide : 1 + 1 ≤ _), (by decide : 4 + 4 ≤ _)⟩)
  dsimp only [Pt.U, Pt.locs, Pt.cells, Pt.slots] at X2 l2 y2 z2 st2 hQ2
  subst l2 y2 z2
  obtain ⟨rfl, N2q, Kc2, Ec2, Cc2, t2, kt2, gt2, zt2, Vq2, Vc2⟩ := hQ2
  have lt_a1_t2 : a1 < t2 := Nat.lt_of_lt_of_le F1_7.lt zt2
  have lt_tb_t2 : tb < t2 := Nat.lt_of_lt_of_le F1_11.lt zt2
  have lt_b1_t2 : b1 < t2 := Nat.lt_of_lt_of_le A1.lt zt2
  have sz_t2 : h0.size ≤ t2 := Nat.le_trans K1.1 zt2
  have F2_27 := F1_7.keep Kc2
  have F2_28 := F1_8.keep Kc2 (fun q => (Nat.ne_of_lt lt_a1_b1) (List.mem_singleton.mp q))
  have F2_29 := F1_9.keep Kc2 (fun q => (Nat.ne_of_lt lt_a1_b1) (List.mem_singleton.mp q))
  have F2_30 := F1_10.keep Kc2 (fun q => (Nat.ne_of_lt lt_a1_b1) (List.mem_singleton.mp q))
  have F2_31 := F1_11.keep Kc2 (fun q => (Nat.ne_of_lt lt_tb_b1) (List.mem_singleton.mp q))
  have F2_32 := A1.keep Kc2
  have K2 : Keep h0 T2.heap [] := K1.trans Kc2 (fun x hx => by cases List.mem_singleton.mp hx; exact Or.inr sz_b1)
  have Z2 : n0 ≤ T2.heap.size := Nat.le_trans Z1 Kc2.1
  have O2 := O1.keep Kc2 (fun x hx => by cases List.mem_singleton.mp hx; exact (Nat.le_trans hz ge_b1))
  have N2 := Fr.app N0 N2q
  refine Goes.via (next := T2.setTop (mkF m 8 #[sr a1] [(.ref b1)])) (fun t k => st2.trans k) ?_
  obtain ⟨fs, hr, hrun, hended, hW, hsame⟩ := X2.leave (v := some (.ref b1)) (fun h => by rw [Bd.returns] at h; cases h)
  refine ⟨_, _, ?_, hrun, hended, _, _, rfl, ?_, ⟨_, rfl⟩, hW, hsame.mono (by decide) (by decide)⟩
  · exact retOut X2 hx (t := (.object "java/lang/String")) Bd.returns rfl (Or.inr (Or.inr (Or.inr (Or.inr ⟨rfl, rfl, rfl⟩)))) (hb hby d37_8) hr
  · show Q37 Z x0 x1 x2 x3 h0 n0 _ T2.heap _
    exact ⟨b1, t2, _, rfl, N2, ge_b1, sz_b1, K2, F2_32, Cc2, Vq2, Vc2⟩
theorem d15_0 : decode jdk_42_method_55_code 0 = .ok (.aload_n 0, 1) := by decide +kernel
theorem d15_1 : decode jdk_42_method_55_code 1 = .ok (.getfield 9, 3) := by decide +kernel
theorem d15_4 : decode jdk_42_method_55_code 4 = .ok (.arraylength, 1) := by decide +kernel
theorem d15_5 : decode jdk_42_method_55_code 5 = .ok (.ifCond .ne 7, 3) := by decide +kernel
theorem d15_8 : decode jdk_42_method_55_code 8 = .ok (.iconst 1, 1) := by decide +kernel
theorem d15_9 : decode jdk_42_method_55_code 9 = .ok (.goto 4, 3) := by decide +kernel
theorem d15_13 : decode jdk_42_method_55_code 13 = .ok (.ireturn, 1) := by decide +kernel
theorem ef_15 (m : MethodId) (x0 : Addr) : entryFrame m #[(.ref x0)] 1 = mkF m 0 #[.val (.ref x0)] [] := by first | (simp [entryFrame, mkF, argsToLocals, Value.category]; done) | rfl
def Q15 (Z : State) (h0 : Heap) (n0 : Nat) (v : Option Value) (h : Heap) (L : List Loc) : Prop := v = some (.int (1 : Int32)) ∧ Fr n0 L ∧ h = h0
set_option maxRecDepth 65536 in
set_option maxHeartbeats 40000000 in
theorem rm15 (l : Launch) (Z : State) (a0 : Array Value) (hw : ∀ d ∈ tables_1, d.before a0 Z = true) (ws : List Jvm.Cond) (a1 : Addr) (t1 : Addr) (k1 : ClassId) (h0 : Heap) (n0 : Nat) (Z0 : n0 ≤ h0.size) (Fe : Fld Z h0 a1 "java/lang/String" "value" "[B" (.ref t1)) (Ve : Arv Z h0 t1 k1 .byte (0 : Int32) [] (.int (0 : Int32))) :
    MF l (⟨"java/lang/String", "isEmpty", "()Z"⟩ : MethodName) jdk_42_method_55_code 1 (some .boolean) ws ({ frames := 0, cells := 0, slots := 0, locals := 0 } : Room) #[(.ref a1)] Z h0 (Q15 Z  h0 n0) := by
  refine MetFree.of_bodySF (plainFor_of_name pn_1) hisR ?_
  intro p e s m args below meth c s₁ Bd hml0 hP hK
  obtain ⟨rfl, hZ, hh⟩ := hP
  have hx := Bd.exec
  have hby := Bd.bytes
  have hml : c.maxLocals = 1 := hml0
  have hown : s.vm.findClass "java/lang/String" = some m.cls := findClass_of_methodNamed Bd.named
  have hnm := (name_of_methodNamed Bd.named Bd.method).1
  have X0 : Stand p l e ({ frames := 0, cells := 0, slots := 0, locals := 0 } : Room) s m #[(.ref a1)] below meth c s₁ [] 0 0 := Stand.of_body Bd
  have e0 : s₁.heap = h0 := by rw [← hh, Bd.state]; rfl
  have N0 := Fr.nil n0
  refine Goes.via (next := s₁.setTop (mkF m 0 #[.val (.ref a1)] [])) (fun t k => castTop (ef_15 m a1) k) ?_
  refine Goes.via (next := s₁.setTop (mkF m 1 #[sr a1] [(.ref a1)])) (fun t k => XS.aloadN X0.here hx rfl (hb hby d15_0) rfl rfl k) ?_
  obtain ⟨T1, X1, e1, st1⟩ := getF X0 hx hZ hown (host := "") (Or.inl (Wd hw 32 rfl)) Via.refl e0 Fe (g := (mkF m 1 #[sr a1] [(.ref a1)])) rfl rfl (hb hby d15_1)
  refine Goes.via (next := T1.setTop (mkF m 4 #[sr a1] [(.ref t1)])) st1 ?_
  obtain ⟨cl2, Ar2, -, Sa2, Na2, -, -⟩ := id Ve
  refine Goes.via (next := T1.setTop (mkF m 5 #[sr a1] [(.int (0 : Int32))])) (fun t k => X1.arraylength hx (by rw [e1]; exact Ar2.1) (State.isArrayOf_alike hZ.alike Ar2.2.1) (g := (mkF m 4 #[sr a1] [(.ref t1)])) rfl rfl (hb hby d15_4) _ (by rw [len_of Sa2 Na2]; exact k)) ?_
  refine Goes.via (next := T1.setTop (mkF m 8 #[sr a1] [])) (fun t k => XS.ifNo X1.here hx rfl (hb hby d15_5) rfl ((if0 _ _).trans (teq (show (0 : Int32) = (0 : Int32) from rfl)).2) k) ?_
  refine Goes.via (next := T1.setTop (mkF m 13 #[sr a1] [(.int (1 : Int32))])) (fun t k => XS.iconst X1.here hx rfl (hb hby d15_8) (XS.goto X1.here hx rfl (pc0 := 9) (pc' := 13) rfl (hb hby d15_9) (by decide) (by decide) k)) ?_
  obtain ⟨fs, hr, hrun, hended, hW, hsame⟩ := X1.leave (v := some (.int (1 : Int32))) (fun h => by rw [Bd.returns] at h; cases h)
  refine ⟨_, _, ?_, hrun, hended, _, _, rfl, ?_, ⟨_, rfl⟩, hW, hsame.mono (by decide) (by decide)⟩
  · exact retN X1 hx (t := .boolean) Bd.returns (by simp) (hb hby d15_13) hr
  · show Q15 Z  h0 n0 _ T1.heap _
    rw [e1]
    exact ⟨rfl, N0, rfl⟩
theorem d17_0 : decode prog_62_method_4_code 0 = .ok (.aload_n 0, 1) := by decide +kernel
theorem d17_1 : decode prog_62_method_4_code 1 = .ok (.getfield 13, 3) := by decide +kernel
theorem d17_4 : decode prog_62_method_4_code 4 = .ok (.invokevirtual 35, 3) := by decide +kernel
theorem d17_7 : decode prog_62_method_4_code 7 = .ok (.ireturn, 1) := by decide +kernel
theorem ef_17 (m : MethodId) (x0 : Addr) : entryFrame m #[(.ref x0)] 1 = mkF m 0 #[.val (.ref x0)] [] := by first | (simp [entryFrame, mkF, argsToLocals, Value.category]; done) | rfl
def Q17 (Z : State) (h0 : Heap) (n0 : Nat) (v : Option Value) (h : Heap) (L : List Loc) : Prop := v = some (.int (1 : Int32)) ∧ Fr n0 L ∧ h = h0
set_option maxRecDepth 65536 in
set_option maxHeartbeats 40000000 in
theorem rm17 (l : Launch) (Z : State) (a0 : Array Value) (hw : ∀ d ∈ tables_1, d.before a0 Z = true) (ws : List Jvm.Cond) (a1 : Addr) (l1 t1 : Addr) (k1 : ClassId) (h0 : Heap) (n0 : Nat) (Z0 : n0 ≤ h0.size) (Fl : Fld Z h0 a1 "com/example/attributes_to_claims/attributestoclaims/cli/CommandArguments$Option" "label" "Ljava/lang/String;" (.ref l1)) (El : Exa Z h0 l1 "java/lang/String") (Fe : Fld Z h0 l1 "java/lang/String" "value" "[B" (.ref t1)) (Ve : Arv Z h0 t1 k1 .byte (0 : Int32) [] (.int (0 : Int32))) :
    MF l (⟨"com/example/attributes_to_claims/attributestoclaims/cli/CommandArguments$Option", "isFlag", "()Z"⟩ : MethodName) prog_62_method_4_code 1 (some .boolean) ws ({ frames := 1, cells := 0, slots := 0, locals := 12 } : Room) #[(.ref a1)] Z h0 (Q17 Z  h0 n0) := by
  refine MetFree.of_bodySF (plainFor_of_name pn_12) hisR ?_
  intro p e s m args below meth c s₁ Bd hml0 hP hK
  obtain ⟨rfl, hZ, hh⟩ := hP
  have hx := Bd.exec
  have hby := Bd.bytes
  have hml : c.maxLocals = 1 := hml0
  have hown : s.vm.findClass "com/example/attributes_to_claims/attributestoclaims/cli/CommandArguments$Option" = some m.cls := findClass_of_methodNamed Bd.named
  have hnm := (name_of_methodNamed Bd.named Bd.method).1
  have X0 : Stand p l e ({ frames := 1, cells := 0, slots := 0, locals := 12 } : Room) s m #[(.ref a1)] below meth c s₁ [] 0 0 := Stand.of_body Bd
  have e0 : s₁.heap = h0 := by rw [← hh, Bd.state]; rfl
  have N0 := Fr.nil n0
  refine Goes.via (next := s₁.setTop (mkF m 0 #[.val (.ref a1)] [])) (fun t k => castTop (ef_17 m a1) k) ?_
  refine Goes.via (next := s₁.setTop (mkF m 1 #[sr a1] [(.ref a1)])) (fun t k => XS.aloadN X0.here hx rfl (hb hby d17_0) rfl rfl k) ?_
  obtain ⟨T1, X1, e1, st1⟩ := getF X0 hx hZ hown (host := "") (Or.inl (Wd hw 61 rfl)) Via.refl e0 Fl (g := (mkF m 1 #[sr a1] [(.ref a1)])) rfl rfl (hb hby d17_1)
  refine Goes.via (next := T1.setTop (mkF m 4 #[sr a1] [(.ref l1)])) st1 ?_
  obtain ⟨cq2, kq2, q2a, q2b, q2c⟩ := isOf hZ e1 El
  obtain ⟨_, _, ⟨T2, L2, k2, n2⟩, -, X2, ⟨Lc2, hQ2, l2, y2, z2⟩, st2⟩ := X1.virtualBack hx (y := (⟨"java/lang/String", "isEmpty", "()Z"⟩ : MethodName)) (z := (⟨"java/lang/String", "isEmpty", "()Z"⟩ : MethodName)) hown (mvT hZ (Wd hw 102 rfl)) (mvT hZ (Wd hw 88 rfl)) (notFace_of_selects (args := #[]) (mvT hZ (Wd hw 90 rfl))) (mvT hZ (Wd hw 90 rfl)) (mvT hZ (Wd hw 89 rfl)) (by decide) (backOf (W := 0) (rm15 l Z a0 hw [] l1 t1 k1 h0 n0 Z0 Fe Ve) hZ (Wd hw 91 rfl) (Wd hw 6 rfl) (by decide) (by decide)) q2a q2c (g := (mkF m 4 #[sr a1] [(.ref l1)])) rfl (by rw [hml]; rfl) (Steps.refl _) (argsL := []) (rest := []) (lenOf pd_23 rfl) rfl (by show 2 * 0 + _ ≤ _; exact Nat.le_of_eq rfl) (hb hby d17_4) (fun _ _ => ⟨rfl, e1, (by decide : 0 + 0 ≤ _), (by decide : 0 + 0 ≤ _)⟩)
  dsimp only [Pt.U, Pt.locs, Pt.cells, Pt.slots] at X2 l2 y2 z2 st2 hQ2
  subst l2 y2 z2
  obtain ⟨rfl, N2q, er2⟩ := hQ2
  have e2 : T2.heap = h0 := er2
  have N2 := Fr.app N0 N2q
  refine Goes.via (next := T2.setTop (mkF m 7 #[sr a1] [(.int (1 : Int32))])) (fun t k => st2.trans k) ?_
  obtain ⟨fs, hr, hrun, hended, hW, hsame⟩ := X2.leave (v := some (.int (1 : Int32))) (fun h => by rw [Bd.returns] at h; cases h)
  refine ⟨_, _, ?_, hrun, hended, _, _, rfl, ?_, ⟨_, rfl⟩, hW, hsame.mono (by decide) (by decide)⟩
  · exact retN X2 hx (t := .boolean) Bd.returns (by simp) (hb hby d17_7) hr
  · show Q17 Z  h0 n0 _ T2.heap _
    rw [e2]
    exact ⟨rfl, N2, rfl⟩
theorem d16_0 : decode prog_62_method_11_code 0 = .ok (.aload_n 0, 1) := by decide +kernel
theorem d16_1 : decode prog_62_method_11_code 1 = .ok (.getfield 17, 3) := by decide +kernel
theorem d16_4 : decode prog_62_method_11_code 4 = .ok (.ireturn, 1) := by decide +kernel
theorem ef_16 (m : MethodId) (x0 : Addr) : entryFrame m #[(.ref x0)] 1 = mkF m 0 #[.val (.ref x0)] [] := by first | (simp [entryFrame, mkF, argsToLocals, Value.category]; done) | rfl
def Q16 (Z : State) (h0 : Heap) (n0 : Nat) (v : Option Value) (h : Heap) (L : List Loc) : Prop := v = some (.int (0 : Int32)) ∧ Fr n0 L ∧ h = h0
set_option maxRecDepth 65536 in
set_option maxHeartbeats 40000000 in
theorem rm16 (l : Launch) (Z : State) (a0 : Array Value) (hw : ∀ d ∈ tables_1, d.before a0 Z = true) (ws : List Jvm.Cond) (a1 : Addr) (h0 : Heap) (n0 : Nat) (Z0 : n0 ≤ h0.size) (F1 : Fld Z h0 a1 "com/example/attributes_to_claims/attributestoclaims/cli/CommandArguments$Option" "repeatable" "Z" (.int (0 : Int32))) :
    MF l (⟨"com/example/attributes_to_claims/attributestoclaims/cli/CommandArguments$Option", "repeatable", "()Z"⟩ : MethodName) prog_62_method_11_code 1 (some .boolean) ws ({ frames := 0, cells := 0, slots := 0, locals := 0 } : Room) #[(.ref a1)] Z h0 (Q16 Z  h0 n0) := by
  refine MetFree.of_bodySF (plainFor_of_name pn_12) hisR ?_
  intro p e s m args below meth c s₁ Bd hml0 hP hK
  obtain ⟨rfl, hZ, hh⟩ := hP
  have hx := Bd.exec
  have hby := Bd.bytes
  have hml : c.maxLocals = 1 := hml0
  have hown : s.vm.findClass "com/example/attributes_to_claims/attributestoclaims/cli/CommandArguments$Option" = some m.cls := findClass_of_methodNamed Bd.named
  have hnm := (name_of_methodNamed Bd.named Bd.method).1
  have X0 : Stand p l e ({ frames := 0, cells := 0, slots := 0, locals := 0 } : Room) s m #[(.ref a1)] below meth c s₁ [] 0 0 := Stand.of_body Bd
  have e0 : s₁.heap = h0 := by rw [← hh, Bd.state]; rfl
  have N0 := Fr.nil n0
  refine Goes.via (next := s₁.setTop (mkF m 0 #[.val (.ref a1)] [])) (fun t k => castTop (ef_16 m a1) k) ?_
  refine Goes.via (next := s₁.setTop (mkF m 1 #[sr a1] [(.ref a1)])) (fun t k => XS.aloadN X0.here hx rfl (hb hby d16_0) rfl rfl k) ?_
  obtain ⟨T1, X1, e1, st1⟩ := getF X0 hx hZ hown (host := "") (Or.inl (Wd hw 63 rfl)) Via.refl e0 F1 (g := (mkF m 1 #[sr a1] [(.ref a1)])) rfl rfl (hb hby d16_1)
  refine Goes.via (next := T1.setTop (mkF m 4 #[sr a1] [(.int (0 : Int32))])) st1 ?_
  obtain ⟨fs, hr, hrun, hended, hW, hsame⟩ := X1.leave (v := some (.int (0 : Int32))) (fun h => by rw [Bd.returns] at h; cases h)
  refine ⟨_, _, ?_, hrun, hended, _, _, rfl, ?_, ⟨_, rfl⟩, hW, hsame.mono (by decide) (by decide)⟩
  · exact retN X1 hx (t := .boolean) Bd.returns (by simp) (hb hby d16_4) hr
  · show Q16 Z  h0 n0 _ T1.heap _
    rw [e1]
    exact ⟨rfl, N0, rfl⟩
theorem d12_0 : decode prog_62_method_9_code 0 = .ok (.aload_n 0, 1) := by decide +kernel
theorem d12_1 : decode prog_62_method_9_code 1 = .ok (.getfield 7, 3) := by decide +kernel
theorem d12_4 : decode prog_62_method_9_code 4 = .ok (.areturn, 1) := by decide +kernel
theorem ef_12 (m : MethodId) (x0 : Addr) : entryFrame m #[(.ref x0)] 1 = mkF m 0 #[.val (.ref x0)] [] := by first | (simp [entryFrame, mkF, argsToLocals, Value.category]; done) | rfl
def Q12 (Z : State) (x1 : Addr) (h0 : Heap) (n0 : Nat) (v : Option Value) (h : Heap) (L : List Loc) : Prop := v = some (.ref x1) ∧ Fr n0 L ∧ h = h0
set_option maxRecDepth 65536 in
set_option maxHeartbeats 40000000 in
theorem rm12 (l : Launch) (Z : State) (a0 : Array Value) (hw : ∀ d ∈ tables_1, d.before a0 Z = true) (ws : List Jvm.Cond) (a1 : Addr) (x1 : Addr) (h0 : Heap) (n0 : Nat) (Z0 : n0 ≤ h0.size) (F1 : Fld Z h0 a1 "com/example/attributes_to_claims/attributestoclaims/cli/CommandArguments$Option" "names" "Ljava/util/List;" (.ref x1)) :
    MF l (⟨"com/example/attributes_to_claims/attributestoclaims/cli/CommandArguments$Option", "names", "()Ljava/util/List;"⟩ : MethodName) prog_62_method_9_code 1 (some (.object "java/util/List")) ws ({ frames := 0, cells := 0, slots := 0, locals := 0 } : Room) #[(.ref a1)] Z h0 (Q12 Z x1 h0 n0) := by
  refine MetFree.of_bodySF (plainFor_of_name pn_12) hisR ?_
  intro p e s m args below meth c s₁ Bd hml0 hP hK
  obtain ⟨rfl, hZ, hh⟩ := hP
  have hx := Bd.exec
  have hby := Bd.bytes
  have hml : c.maxLocals = 1 := hml0
  have hown : s.vm.findClass "com/example/attributes_to_claims/attributestoclaims/cli/CommandArguments$Option" = some m.cls := findClass_of_methodNamed Bd.named
  have hnm := (name_of_methodNamed Bd.named Bd.method).1
  have X0 : Stand p l e ({ frames := 0, cells := 0, slots := 0, locals := 0 } : Room) s m #[(.ref a1)] below meth c s₁ [] 0 0 := Stand.of_body Bd
  have e0 : s₁.heap = h0 := by rw [← hh, Bd.state]; rfl
  have N0 := Fr.nil n0
  refine Goes.via (next := s₁.setTop (mkF m 0 #[.val (.ref a1)] [])) (fun t k => castTop (ef_12 m a1) k) ?_
  refine Goes.via (next := s₁.setTop (mkF m 1 #[sr a1] [(.ref a1)])) (fun t k => XS.aloadN X0.here hx rfl (hb hby d12_0) rfl rfl k) ?_
  obtain ⟨T1, X1, e1, st1⟩ := getF X0 hx hZ hown (host := "") (Or.inl (Wd hw 59 rfl)) Via.refl e0 F1 (g := (mkF m 1 #[sr a1] [(.ref a1)])) rfl rfl (hb hby d12_1)
  refine Goes.via (next := T1.setTop (mkF m 4 #[sr a1] [(.ref x1)])) st1 ?_
  obtain ⟨fs, hr, hrun, hended, hW, hsame⟩ := X1.leave (v := some (.ref x1)) (fun h => by rw [Bd.returns] at h; cases h)
  refine ⟨_, _, ?_, hrun, hended, _, _, rfl, ?_, ⟨_, rfl⟩, hW, hsame.mono (by decide) (by decide)⟩
  · exact retOut X1 hx (t := (.object "java/util/List")) Bd.returns rfl (Or.inr (Or.inr (Or.inr (Or.inr ⟨rfl, rfl, rfl⟩)))) (hb hby d12_4) hr
  · show Q12 Z x1 h0 n0 _ T1.heap _
    rw [e1]
    exact ⟨rfl, N0, rfl⟩
theorem d14_0 : decode prog_62_method_10_code 0 = .ok (.aload_n 0, 1) := by decide +kernel
theorem d14_1 : decode prog_62_method_10_code 1 = .ok (.getfield 13, 3) := by decide +kernel
theorem d14_4 : decode prog_62_method_10_code 4 = .ok (.areturn, 1) := by decide +kernel
theorem ef_14 (m : MethodId) (x0 : Addr) : entryFrame m #[(.ref x0)] 1 = mkF m 0 #[.val (.ref x0)] [] := by first | (simp [entryFrame, mkF, argsToLocals, Value.category]; done) | rfl
def Q14 (Z : State) (x1 : Addr) (h0 : Heap) (n0 : Nat) (v : Option Value) (h : Heap) (L : List Loc) : Prop := v = some (.ref x1) ∧ Fr n0 L ∧ h = h0
set_option maxRecDepth 65536 in
set_option maxHeartbeats 40000000 in
theorem rm14 (l : Launch) (Z : State) (a0 : Array Value) (hw : ∀ d ∈ tables_1, d.before a0 Z = true) (ws : List Jvm.Cond) (a1 : Addr) (x1 : Addr) (h0 : Heap) (n0 : Nat) (Z0 : n0 ≤ h0.size) (F1 : Fld Z h0 a1 "com/example/attributes_to_claims/attributestoclaims/cli/CommandArguments$Option" "label" "Ljava/lang/String;" (.ref x1)) :
    MF l (⟨"com/example/attributes_to_claims/attributestoclaims/cli/CommandArguments$Option", "label", "()Ljava/lang/String;"⟩ : MethodName) prog_62_method_10_code 1 (some (.object "java/lang/String")) ws ({ frames := 0, cells := 0, slots := 0, locals := 0 } : Room) #[(.ref a1)] Z h0 (Q14 Z x1 h0 n0) := by
  refine MetFree.of_bodySF (plainFor_of_name pn_12) hisR ?_
  intro p e s m args below meth c s₁ Bd hml0 hP hK
  obtain ⟨rfl, hZ, hh⟩ := hP
  have hx := Bd.exec
  have hby := Bd.bytes
  have hml : c.maxLocals = 1 := hml0
  have hown : s.vm.findClass "com/example/attributes_to_claims/attributestoclaims/cli/CommandArguments$Option" = some m.cls := findClass_of_methodNamed Bd.named
  have hnm := (name_of_methodNamed Bd.named Bd.method).1
  have X0 : Stand p l e ({ frames := 0, cells := 0, slots := 0, locals := 0 } : Room) s m #[(.ref a1)] below meth c s₁ [] 0 0 := Stand.of_body Bd
  have e0 : s₁.heap = h0 := by rw [← hh, Bd.state]; rfl
  have N0 := Fr.nil n0
  refine Goes.via (next := s₁.setTop (mkF m 0 #[.val (.ref a1)] [])) (fun t k => castTop (ef_14 m a1) k) ?_
  refine Goes.via (next := s₁.setTop (mkF m 1 #[sr a1] [(.ref a1)])) (fun t k => XS.aloadN X0.here hx rfl (hb hby d14_0) rfl rfl k) ?_
  obtain ⟨T1, X1, e1, st1⟩ := getF X0 hx hZ hown (host := "") (Or.inl (Wd hw 61 rfl)) Via.refl e0 F1 (g := (mkF m 1 #[sr a1] [(.ref a1)])) rfl rfl (hb hby d14_1)
  refine Goes.via (next := T1.setTop (mkF m 4 #[sr a1] [(.ref x1)])) st1 ?_
  obtain ⟨fs, hr, hrun, hended, hW, hsame⟩ := X1.leave (v := some (.ref x1)) (fun h => by rw [Bd.returns] at h; cases h)
  refine ⟨_, _, ?_, hrun, hended, _, _, rfl, ?_, ⟨_, rfl⟩, hW, hsame.mono (by decide) (by decide)⟩
  · exact retOut X1 hx (t := (.object "java/lang/String")) Bd.returns rfl (Or.inr (Or.inr (Or.inr (Or.inr ⟨rfl, rfl, rfl⟩)))) (hb hby d14_4) hr
  · show Q14 Z x1 h0 n0 _ T1.heap _
    rw [e1]
    exact ⟨rfl, N0, rfl⟩
theorem d13_0 : decode jdk_45_method_3_code 0 = .ok (.aload_n 0, 1) := by decide +kernel
theorem d13_1 : decode jdk_45_method_3_code 1 = .ok (.getfield 7, 3) := by decide +kernel
theorem d13_4 : decode jdk_45_method_3_code 4 = .ok (.arraylength, 1) := by decide +kernel
theorem d13_5 : decode jdk_45_method_3_code 5 = .ok (.ireturn, 1) := by decide +kernel
theorem ef_13_0 (m : MethodId) (x0 : Addr) : entryFrame m #[(.ref x0)] 1 = mkF m 0 #[.val (.ref x0)] [] := by first | (simp [entryFrame, mkF, argsToLocals, Value.category]; done) | rfl
def Q13_0 (Z : State) (h0 : Heap) (n0 : Nat) (v : Option Value) (h : Heap) (L : List Loc) : Prop := v = some (.int (0 : Int32)) ∧ Fr n0 L ∧ h = h0
set_option maxRecDepth 65536 in
set_option maxHeartbeats 40000000 in
theorem rm13_0 (l : Launch) (Z : State) (a0 : Array Value) (hw : ∀ d ∈ tables_1, d.before a0 Z = true) (ws : List Jvm.Cond) (a1 : Addr) (q1 : Addr) (k1 : ClassId) (h0 : Heap) (n0 : Nat) (Z0 : n0 ≤ h0.size) (Fe : Fld Z h0 a1 "java/util/ImmutableCollections$ListN" "elements" "[Ljava/lang/Object;" (.ref q1)) (Ve : Arv Z h0 q1 k1 (.object "java/lang/Object") (0 : Int32) [] .null) :
    MF l (⟨"java/util/ImmutableCollections$ListN", "size", "()I"⟩ : MethodName) jdk_45_method_3_code 1 (some .int) ws ({ frames := 0, cells := 0, slots := 0, locals := 0 } : Room) #[(.ref a1)] Z h0 (Q13_0 Z  h0 n0) := by
  refine MetFree.of_bodySF (plainFor_of_name pn_9) hisR ?_
  intro p e s m args below meth c s₁ Bd hml0 hP hK
  obtain ⟨rfl, hZ, hh⟩ := hP
  have hx := Bd.exec
  have hby := Bd.bytes
  have hml : c.maxLocals = 1 := hml0
  have hown : s.vm.findClass "java/util/ImmutableCollections$ListN" = some m.cls := findClass_of_methodNamed Bd.named
  have hnm := (name_of_methodNamed Bd.named Bd.method).1
  have X0 : Stand p l e ({ frames := 0, cells := 0, slots := 0, locals := 0 } : Room) s m #[(.ref a1)] below meth c s₁ [] 0 0 := Stand.of_body Bd
  have e0 : s₁.heap = h0 := by rw [← hh, Bd.state]; rfl
  have N0 := Fr.nil n0
  refine Goes.via (next := s₁.setTop (mkF m 0 #[.val (.ref a1)] [])) (fun t k => castTop (ef_13_0 m a1) k) ?_
  refine Goes.via (next := s₁.setTop (mkF m 1 #[sr a1] [(.ref a1)])) (fun t k => XS.aloadN X0.here hx rfl (hb hby d13_0) rfl rfl k) ?_
  obtain ⟨T1, X1, e1, st1⟩ := getF X0 hx hZ hown (host := "") (Or.inl (Wd hw 80 rfl)) Via.refl e0 Fe (g := (mkF m 1 #[sr a1] [(.ref a1)])) rfl rfl (hb hby d13_1)
  refine Goes.via (next := T1.setTop (mkF m 4 #[sr a1] [(.ref q1)])) st1 ?_
  obtain ⟨cl2, Ar2, -, Sa2, Na2, -, -⟩ := id Ve
  refine Goes.via (next := T1.setTop (mkF m 5 #[sr a1] [(.int (0 : Int32))])) (fun t k => X1.arraylength hx (by rw [e1]; exact Ar2.1) (State.isArrayOf_alike hZ.alike Ar2.2.1) (g := (mkF m 4 #[sr a1] [(.ref q1)])) rfl rfl (hb hby d13_4) _ (by rw [len_of Sa2 Na2]; exact k)) ?_
  obtain ⟨fs, hr, hrun, hended, hW, hsame⟩ := X1.leave (v := some (.int (0 : Int32))) (fun h => by rw [Bd.returns] at h; cases h)
  refine ⟨_, _, ?_, hrun, hended, _, _, rfl, ?_, ⟨_, rfl⟩, hW, hsame.mono (by decide) (by decide)⟩
  · exact retI X1 hx Bd.returns (hb hby d13_5) hr
  · show Q13_0 Z  h0 n0 _ T1.heap _
    rw [e1]
    exact ⟨rfl, N0, rfl⟩
theorem ef_13_3 (m : MethodId) (x0 : Addr) : entryFrame m #[(.ref x0)] 1 = mkF m 0 #[.val (.ref x0)] [] := by first | (simp [entryFrame, mkF, argsToLocals, Value.category]; done) | rfl
def Q13_3 (Z : State) (h0 : Heap) (n0 : Nat) (v : Option Value) (h : Heap) (L : List Loc) : Prop := v = some (.int (3 : Int32)) ∧ Fr n0 L ∧ h = h0
set_option maxRecDepth 65536 in
set_option maxHeartbeats 40000000 in
theorem rm13_3 (l : Launch) (Z : State) (a0 : Array Value) (hw : ∀ d ∈ tables_1, d.before a0 Z = true) (ws : List Jvm.Cond) (a1 : Addr) (q1 : Addr) (k1 : ClassId) (ua ub uc : Addr) (h0 : Heap) (n0 : Nat) (Z0 : n0 ≤ h0.size) (Fe : Fld Z h0 a1 "java/util/ImmutableCollections$ListN" "elements" "[Ljava/lang/Object;" (.ref q1)) (Ve : Arv Z h0 q1 k1 (.object "java/lang/Object") (3 : Int32) [.ref ua, .ref ub, .ref uc] .null) :
    MF l (⟨"java/util/ImmutableCollections$ListN", "size", "()I"⟩ : MethodName) jdk_45_method_3_code 1 (some .int) ws ({ frames := 0, cells := 0, slots := 0, locals := 0 } : Room) #[(.ref a1)] Z h0 (Q13_3 Z  h0 n0) := by
  refine MetFree.of_bodySF (plainFor_of_name pn_9) hisR ?_
  intro p e s m args below meth c s₁ Bd hml0 hP hK
  obtain ⟨rfl, hZ, hh⟩ := hP
  have hx := Bd.exec
  have hby := Bd.bytes
  have hml : c.maxLocals = 1 := hml0
  have hown : s.vm.findClass "java/util/ImmutableCollections$ListN" = some m.cls := findClass_of_methodNamed Bd.named
  have hnm := (name_of_methodNamed Bd.named Bd.method).1
  have X0 : Stand p l e ({ frames := 0, cells := 0, slots := 0, locals := 0 } : Room) s m #[(.ref a1)] below meth c s₁ [] 0 0 := Stand.of_body Bd
  have e0 : s₁.heap = h0 := by rw [← hh, Bd.state]; rfl
  have N0 := Fr.nil n0
  refine Goes.via (next := s₁.setTop (mkF m 0 #[.val (.ref a1)] [])) (fun t k => castTop (ef_13_3 m a1) k) ?_
  refine Goes.via (next := s₁.setTop (mkF m 1 #[sr a1] [(.ref a1)])) (fun t k => XS.aloadN X0.here hx rfl (hb hby d13_0) rfl rfl k) ?_
  obtain ⟨T1, X1, e1, st1⟩ := getF X0 hx hZ hown (host := "") (Or.inl (Wd hw 80 rfl)) Via.refl e0 Fe (g := (mkF m 1 #[sr a1] [(.ref a1)])) rfl rfl (hb hby d13_1)
  refine Goes.via (next := T1.setTop (mkF m 4 #[sr a1] [(.ref q1)])) st1 ?_
  obtain ⟨cl2, Ar2, -, Sa2, Na2, -, -⟩ := id Ve
  refine Goes.via (next := T1.setTop (mkF m 5 #[sr a1] [(.int (3 : Int32))])) (fun t k => X1.arraylength hx (by rw [e1]; exact Ar2.1) (State.isArrayOf_alike hZ.alike Ar2.2.1) (g := (mkF m 4 #[sr a1] [(.ref q1)])) rfl rfl (hb hby d13_4) _ (by rw [len_of Sa2 Na2]; exact k)) ?_
  obtain ⟨fs, hr, hrun, hended, hW, hsame⟩ := X1.leave (v := some (.int (3 : Int32))) (fun h => by rw [Bd.returns] at h; cases h)
  refine ⟨_, _, ?_, hrun, hended, _, _, rfl, ?_, ⟨_, rfl⟩, hW, hsame.mono (by decide) (by decide)⟩
  · exact retI X1 hx Bd.returns (hb hby d13_5) hr
  · show Q13_3 Z  h0 n0 _ T1.heap _
    rw [e1]
    exact ⟨rfl, N0, rfl⟩
theorem d24_0 : decode jdk_45_method_4_code 0 = .ok (.aload_n 0, 1) := by decide +kernel
theorem d24_1 : decode jdk_45_method_4_code 1 = .ok (.getfield 7, 3) := by decide +kernel
theorem d24_4 : decode jdk_45_method_4_code 4 = .ok (.iload_n 1, 1) := by decide +kernel
theorem d24_5 : decode jdk_45_method_4_code 5 = .ok (.aaload, 1) := by decide +kernel
theorem d24_6 : decode jdk_45_method_4_code 6 = .ok (.areturn, 1) := by decide +kernel
theorem ef_24_0 (m : MethodId) (x0 : Addr) : entryFrame m #[(.ref x0), (.int (0 : Int32))] 2 = mkF m 0 #[.val (.ref x0), .val (.int (0 : Int32))] [] := by first | (simp [entryFrame, mkF, argsToLocals, Value.category]; done) | rfl
def Q24_0 (Z : State) (ua : Addr) (h0 : Heap) (n0 : Nat) (v : Option Value) (h : Heap) (L : List Loc) : Prop := v = some (.ref ua) ∧ Fr n0 L ∧ h = h0
set_option maxRecDepth 65536 in
set_option maxHeartbeats 40000000 in
theorem rm24_0 (l : Launch) (Z : State) (a0 : Array Value) (hw : ∀ d ∈ tables_1, d.before a0 Z = true) (ws : List Jvm.Cond) (a1 : Addr) (q1 : Addr) (k1 : ClassId) (ua ub uc : Addr) (h0 : Heap) (n0 : Nat) (Z0 : n0 ≤ h0.size) (Fe : Fld Z h0 a1 "java/util/ImmutableCollections$ListN" "elements" "[Ljava/lang/Object;" (.ref q1)) (Ve : Arv Z h0 q1 k1 (.object "java/lang/Object") (3 : Int32) [.ref ua, .ref ub, .ref uc] .null) :
    MF l (⟨"java/util/ImmutableCollections$ListN", "get", "(I)Ljava/lang/Object;"⟩ : MethodName) jdk_45_method_4_code 2 (some (.object "java/lang/Object")) ws ({ frames := 0, cells := 0, slots := 0, locals := 0 } : Room) #[(.ref a1), (.int (0 : Int32))] Z h0 (Q24_0 Z ua h0 n0) := by
  refine MetFree.of_bodySF (plainFor_of_name pn_9) hisR ?_
  intro p e s m args below meth c s₁ Bd hml0 hP hK
  obtain ⟨rfl, hZ, hh⟩ := hP
  have hx := Bd.exec
  have hby := Bd.bytes
  have hml : c.maxLocals = 2 := hml0
  have hown : s.vm.findClass "java/util/ImmutableCollections$ListN" = some m.cls := findClass_of_methodNamed Bd.named
  have hnm := (name_of_methodNamed Bd.named Bd.method).1
  have X0 : Stand p l e ({ frames := 0, cells := 0, slots := 0, locals := 0 } : Room) s m #[(.ref a1), (.int (0 : Int32))] below meth c s₁ [] 0 0 := Stand.of_body Bd
  have e0 : s₁.heap = h0 := by rw [← hh, Bd.state]; rfl
  have N0 := Fr.nil n0
  refine Goes.via (next := s₁.setTop (mkF m 0 #[.val (.ref a1), .val (.int (0 : Int32))] [])) (fun t k => castTop (ef_24_0 m a1) k) ?_
  refine Goes.via (next := s₁.setTop (mkF m 1 #[sr a1, si (0 : Int32)] [(.ref a1)])) (fun t k => XS.aloadN X0.here hx rfl (hb hby d24_0) rfl rfl k) ?_
  obtain ⟨T1, X1, e1, st1⟩ := getF X0 hx hZ hown (host := "") (Or.inl (Wd hw 80 rfl)) Via.refl e0 Fe (g := (mkF m 1 #[sr a1, si (0 : Int32)] [(.ref a1)])) rfl rfl (hb hby d24_1)
  refine Goes.via (next := T1.setTop (mkF m 4 #[sr a1, si (0 : Int32)] [(.ref q1)])) st1 ?_
  refine Goes.via (next := T1.setTop (mkF m 5 #[sr a1, si (0 : Int32)] [(.int (0 : Int32)), (.ref q1)])) (fun t k => XS.iloadN X1.here hx rfl (hb hby d24_4) rfl k) ?_
  obtain ⟨cl2, Ar2, qa2, Sa2, Na2, Ha2, Ga2⟩ := id Ve
  have hin2 : ¬ ((0 : Int32) < 0 ∨ cl2.slots.size ≤ ((0 : Int32)).toNatClampNeg) := inb_of Sa2 ⟨by decide, by decide⟩
  have hat2 : cl2.slots[((0 : Int32)).toNatClampNeg]? = some (.ref ua) := Ha2.at hin2 rfl
  refine Goes.via (next := T1.setTop (mkF m 6 #[sr a1, si (0 : Int32)] [(.ref ua)])) (fun t k => X1.aaload hx (j := (0 : Int32)) (v := (.ref ua)) (by rw [e1]; exact Ar2.1) (State.isArrayOf_alike hZ.alike Ar2.2.1) rfl Ar2.2.2 hin2 hat2 (g := (mkF m 5 #[sr a1, si (0 : Int32)] [(.int (0 : Int32)), (.ref q1)])) rfl rfl (hb hby d24_5) _ k) ?_
  obtain ⟨fs, hr, hrun, hended, hW, hsame⟩ := X1.leave (v := some (.ref ua)) (fun h => by rw [Bd.returns] at h; cases h)
  refine ⟨_, _, ?_, hrun, hended, _, _, rfl, ?_, ⟨_, rfl⟩, hW, hsame.mono (by decide) (by decide)⟩
  · exact retOut X1 hx (t := (.object "java/lang/Object")) Bd.returns rfl (Or.inr (Or.inr (Or.inr (Or.inr ⟨rfl, rfl, rfl⟩)))) (hb hby d24_6) hr
  · show Q24_0 Z ua h0 n0 _ T1.heap _
    rw [e1]
    exact ⟨rfl, N0, rfl⟩
theorem ef_24_1 (m : MethodId) (x0 : Addr) : entryFrame m #[(.ref x0), (.int (1 : Int32))] 2 = mkF m 0 #[.val (.ref x0), .val (.int (1 : Int32))] [] := by first | (simp [entryFrame, mkF, argsToLocals, Value.category]; done) | rfl
def Q24_1 (Z : State) (ub : Addr) (h0 : Heap) (n0 : Nat) (v : Option Value) (h : Heap) (L : List Loc) : Prop := v = some (.ref ub) ∧ Fr n0 L ∧ h = h0
set_option maxRecDepth 65536 in
set_option maxHeartbeats 40000000 in
theorem rm24_1 (l : Launch) (Z : State) (a0 : Array Value) (hw : ∀ d ∈ tables_1, d.before a0 Z = true) (ws : List Jvm.Cond) (a1 : Addr) (q1 : Addr) (k1 : ClassId) (ua ub uc : Addr) (h0 : Heap) (n0 : Nat) (Z0 : n0 ≤ h0.size) (Fe : Fld Z h0 a1 "java/util/ImmutableCollections$ListN" "elements" "[Ljava/lang/Object;" (.ref q1)) (Ve : Arv Z h0 q1 k1 (.object "java/lang/Object") (3 : Int32) [.ref ua, .ref ub, .ref uc] .null) :
    MF l (⟨"java/util/ImmutableCollections$ListN", "get", "(I)Ljava/lang/Object;"⟩ : MethodName) jdk_45_method_4_code 2 (some (.object "java/lang/Object")) ws ({ frames := 0, cells := 0, slots := 0, locals := 0 } : Room) #[(.ref a1), (.int (1 : Int32))] Z h0 (Q24_1 Z ub h0 n0) := by
  refine MetFree.of_bodySF (plainFor_of_name pn_9) hisR ?_
  intro p e s m args below meth c s₁ Bd hml0 hP hK
  obtain ⟨rfl, hZ, hh⟩ := hP
  have hx := Bd.exec
  have hby := Bd.bytes
  have hml : c.maxLocals = 2 := hml0
  have hown : s.vm.findClass "java/util/ImmutableCollections$ListN" = some m.cls := findClass_of_methodNamed Bd.named
  have hnm := (name_of_methodNamed Bd.named Bd.method).1
  have X0 : Stand p l e ({ frames := 0, cells := 0, slots := 0, locals := 0 } : Room) s m #[(.ref a1), (.int (1 : Int32))] below meth c s₁ [] 0 0 := Stand.of_body Bd
  have e0 : s₁.heap = h0 := by rw [← hh, Bd.state]; rfl
  have N0 := Fr.nil n0
  refine Goes.via (next := s₁.setTop (mkF m 0 #[.val (.ref a1), .val (.int (1 : Int32))] [])) (fun t k => castTop (ef_24_1 m a1) k) ?_
  refine Goes.via (next := s₁.setTop (mkF m 1 #[sr a1, si (1 : Int32)] [(.ref a1)])) (fun t k => XS.aloadN X0.here hx rfl (hb hby d24_0) rfl rfl k) ?_
  obtain ⟨T1, X1, e1, st1⟩ := getF X0 hx hZ hown (host := "") (Or.inl (Wd hw 80 rfl)) Via.refl e0 Fe (g := (mkF m 1 #[sr a1, si (1 : Int32)] [(.ref a1)])) rfl rfl (hb hby d24_1)
  refine Goes.via (next := T1.setTop (mkF m 4 #[sr a1, si (1 : Int32)] [(.ref q1)])) st1 ?_
  refine Goes.via (next := T1.setTop (mkF m 5 #[sr a1, si (1 : Int32)] [(.int (1 : Int32)), (.ref q1)])) (fun t k => XS.iloadN X1.here hx rfl (hb hby d24_4) rfl k) ?_
  obtain ⟨cl2, Ar2, qa2, Sa2, Na2, Ha2, Ga2⟩ := id Ve
  have hin2 : ¬ ((1 : Int32) < 0 ∨ cl2.slots.size ≤ ((1 : Int32)).toNatClampNeg) := inb_of Sa2 ⟨by decide, by decide⟩
  have hat2 : cl2.slots[((1 : Int32)).toNatClampNeg]? = some (.ref ub) := Ha2.at hin2 rfl
  refine Goes.via (next := T1.setTop (mkF m 6 #[sr a1, si (1 : Int32)] [(.ref ub)])) (fun t k => X1.aaload hx (j := (1 : Int32)) (v := (.ref ub)) (by rw [e1]; exact Ar2.1) (State.isArrayOf_alike hZ.alike Ar2.2.1) rfl Ar2.2.2 hin2 hat2 (g := (mkF m 5 #[sr a1, si (1 : Int32)] [(.int (1 : Int32)), (.ref q1)])) rfl rfl (hb hby d24_5) _ k) ?_
  obtain ⟨fs, hr, hrun, hended, hW, hsame⟩ := X1.leave (v := some (.ref ub)) (fun h => by rw [Bd.returns] at h; cases h)
  refine ⟨_, _, ?_, hrun, hended, _, _, rfl, ?_, ⟨_, rfl⟩, hW, hsame.mono (by decide) (by decide)⟩
  · exact retOut X1 hx (t := (.object "java/lang/Object")) Bd.returns rfl (Or.inr (Or.inr (Or.inr (Or.inr ⟨rfl, rfl, rfl⟩)))) (hb hby d24_6) hr
  · show Q24_1 Z ub h0 n0 _ T1.heap _
    rw [e1]
    exact ⟨rfl, N0, rfl⟩
theorem ef_24_2 (m : MethodId) (x0 : Addr) : entryFrame m #[(.ref x0), (.int (2 : Int32))] 2 = mkF m 0 #[.val (.ref x0), .val (.int (2 : Int32))] [] := by first | (simp [entryFrame, mkF, argsToLocals, Value.category]; done) | rfl
def Q24_2 (Z : State) (uc : Addr) (h0 : Heap) (n0 : Nat) (v : Option Value) (h : Heap) (L : List Loc) : Prop := v = some (.ref uc) ∧ Fr n0 L ∧ h = h0
set_option maxRecDepth 65536 in
set_option maxHeartbeats 40000000 in
theorem rm24_2 (l : Launch) (Z : State) (a0 : Array Value) (hw : ∀ d ∈ tables_1, d.before a0 Z = true) (ws : List Jvm.Cond) (a1 : Addr) (q1 : Addr) (k1 : ClassId) (ua ub uc : Addr) (h0 : Heap) (n0 : Nat) (Z0 : n0 ≤ h0.size) (Fe : Fld Z h0 a1 "java/util/ImmutableCollections$ListN" "elements" "[Ljava/lang/Object;" (.ref q1)) (Ve : Arv Z h0 q1 k1 (.object "java/lang/Object") (3 : Int32) [.ref ua, .ref ub, .ref uc] .null) :
    MF l (⟨"java/util/ImmutableCollections$ListN", "get", "(I)Ljava/lang/Object;"⟩ : MethodName) jdk_45_method_4_code 2 (some (.object "java/lang/Object")) ws ({ frames := 0, cells := 0, slots := 0, locals := 0 } : Room) #[(.ref a1), (.int (2 : Int32))] Z h0 (Q24_2 Z uc h0 n0) := by
  refine MetFree.of_bodySF (plainFor_of_name pn_9) hisR ?_
  intro p e s m args below meth c s₁ Bd hml0 hP hK
  obtain ⟨rfl, hZ, hh⟩ := hP
  have hx := Bd.exec
  have hby := Bd.bytes
  have hml : c.maxLocals = 2 := hml0
  have hown : s.vm.findClass "java/util/ImmutableCollections$ListN" = some m.cls := findClass_of_methodNamed Bd.named
  have hnm := (name_of_methodNamed Bd.named Bd.method).1
  have X0 : Stand p l e ({ frames := 0, cells := 0, slots := 0, locals := 0 } : Room) s m #[(.ref a1), (.int (2 : Int32))] below meth c s₁ [] 0 0 := Stand.of_body Bd
  have e0 : s₁.heap = h0 := by rw [← hh, Bd.state]; rfl
  have N0 := Fr.nil n0
  refine Goes.via (next := s₁.setTop (mkF m 0 #[.val (.ref a1), .val (.int (2 : Int32))] [])) (fun t k => castTop (ef_24_2 m a1) k) ?_
  refine Goes.via (next := s₁.setTop (mkF m 1 #[sr a1, si (2 : Int32)] [(.ref a1)])) (fun t k => XS.aloadN X0.here hx rfl (hb hby d24_0) rfl rfl k) ?_
  obtain ⟨T1, X1, e1, st1⟩ := getF X0 hx hZ hown (host := "") (Or.inl (Wd hw 80 rfl)) Via.refl e0 Fe (g := (mkF m 1 #[sr a1, si (2 : Int32)] [(.ref a1)])) rfl rfl (hb hby d24_1)
  refine Goes.via (next := T1.setTop (mkF m 4 #[sr a1, si (2 : Int32)] [(.ref q1)])) st1 ?_
  refine Goes.via (next := T1.setTop (mkF m 5 #[sr a1, si (2 : Int32)] [(.int (2 : Int32)), (.ref q1)])) (fun t k => XS.iloadN X1.here hx rfl (hb hby d24_4) rfl k) ?_
  obtain ⟨cl2, Ar2, qa2, Sa2, Na2, Ha2, Ga2⟩ := id Ve
  have hin2 : ¬ ((2 : Int32) < 0 ∨ cl2.slots.size ≤ ((2 : Int32)).toNatClampNeg) := inb_of Sa2 ⟨by decide, by decide⟩
  have hat2 : cl2.slots[((2 : Int32)).toNatClampNeg]? = some (.ref uc) := Ha2.at hin2 rfl
  refine Goes.via (next := T1.setTop (mkF m 6 #[sr a1, si (2 : Int32)] [(.ref uc)])) (fun t k => X1.aaload hx (j := (2 : Int32)) (v := (.ref uc)) (by rw [e1]; exact Ar2.1) (State.isArrayOf_alike hZ.alike Ar2.2.1) rfl Ar2.2.2 hin2 hat2 (g := (mkF m 5 #[sr a1, si (2 : Int32)] [(.int (2 : Int32)), (.ref q1)])) rfl rfl (hb hby d24_5) _ k) ?_
  obtain ⟨fs, hr, hrun, hended, hW, hsame⟩ := X1.leave (v := some (.ref uc)) (fun h => by rw [Bd.returns] at h; cases h)
  refine ⟨_, _, ?_, hrun, hended, _, _, rfl, ?_, ⟨_, rfl⟩, hW, hsame.mono (by decide) (by decide)⟩
  · exact retOut X1 hx (t := (.object "java/lang/Object")) Bd.returns rfl (Or.inr (Or.inr (Or.inr (Or.inr ⟨rfl, rfl, rfl⟩)))) (hb hby d24_6) hr
  · show Q24_2 Z uc h0 n0 _ T1.heap _
    rw [e1]
    exact ⟨rfl, N0, rfl⟩
theorem d51_0 : decode jdk_44_method_3_code 0 = .ok (.aload_n 0, 1) := by decide +kernel
theorem d51_1 : decode jdk_44_method_3_code 1 = .ok (.getfield 24, 3) := by decide +kernel
theorem d51_4 : decode jdk_44_method_3_code 4 = .ok (.getstatic 19, 3) := by decide +kernel
theorem d51_7 : decode jdk_44_method_3_code 7 = .ok (.if_acmp .eq 7, 3) := by decide +kernel
theorem d51_14 : decode jdk_44_method_3_code 14 = .ok (.iconst 1, 1) := by decide +kernel
theorem d51_15 : decode jdk_44_method_3_code 15 = .ok (.ireturn, 1) := by decide +kernel
theorem ef_51_1 (m : MethodId) (x0 : Addr) : entryFrame m #[(.ref x0)] 1 = mkF m 0 #[.val (.ref x0)] [] := by first | (simp [entryFrame, mkF, argsToLocals, Value.category]; done) | rfl
def Q51_1 (Z : State) (h0 : Heap) (n0 : Nat) (v : Option Value) (h : Heap) (L : List Loc) : Prop := v = some (.int (1 : Int32)) ∧ Fr n0 L ∧ h = h0
set_option maxRecDepth 65536 in
set_option maxHeartbeats 40000000 in
theorem rm51_1 (l : Launch) (Z : State) (a0 : Array Value) (hw : ∀ d ∈ tables_1, d.before a0 Z = true) (ws : List Jvm.Cond) (a1 : Addr) (w0 : Int32) (rE rL eL : Addr) (kL : ClassId) (nZ : Nat) (h0 : Heap) (n0 : Nat) (Z0 : n0 ≤ h0.size) (F1 : Fld Z h0 a1 "java/util/ImmutableCollections$List12" "e1" "Ljava/lang/Object;" (.ref rE)) (O0 : Old Z nZ h0) (hz : nZ ≤ n0) (St : own_St Z w0 rE rL eL kL) :
    MF l (⟨"java/util/ImmutableCollections$List12", "size", "()I"⟩ : MethodName) jdk_44_method_3_code 1 (some .int) ws ({ frames := 0, cells := 0, slots := 0, locals := 0 } : Room) #[(.ref a1)] Z h0 (Q51_1 Z  h0 n0) := by
  refine MetFree.of_bodySF (plainFor_of_name pn_8) hisR ?_
  intro p e s m args below meth c s₁ Bd hml0 hP hK
  obtain ⟨rfl, hZ, hh⟩ := hP
  have hx := Bd.exec
  have hby := Bd.bytes
  have hml : c.maxLocals = 1 := hml0
  have hown : s.vm.findClass "java/util/ImmutableCollections$List12" = some m.cls := findClass_of_methodNamed Bd.named
  have hnm := (name_of_methodNamed Bd.named Bd.method).1
  have X0 : Stand p l e ({ frames := 0, cells := 0, slots := 0, locals := 0 } : Room) s m #[(.ref a1)] below meth c s₁ [] 0 0 := Stand.of_body Bd
  have e0 : s₁.heap = h0 := by rw [← hh, Bd.state]; rfl
  have N0 := Fr.nil n0
  refine Goes.via (next := s₁.setTop (mkF m 0 #[.val (.ref a1)] [])) (fun t k => castTop (ef_51_1 m a1) k) ?_
  refine Goes.via (next := s₁.setTop (mkF m 1 #[sr a1] [(.ref a1)])) (fun t k => XS.aloadN X0.here hx rfl (hb hby d51_0) rfl rfl k) ?_
  obtain ⟨T1, X1, e1, st1⟩ := getF X0 hx hZ hown (host := "") (Or.inl (Wd hw 295 rfl)) Via.refl e0 F1 (g := (mkF m 1 #[sr a1] [(.ref a1)])) rfl rfl (hb hby d51_1)
  refine Goes.via (next := T1.setTop (mkF m 4 #[sr a1] [(.ref rE)])) st1 ?_
  obtain ⟨T2, X2, e2, st2⟩ := getS2 X1 hx hZ hown (Or.inr (Wd hw 303 rfl)) Via.refl e1 (St.2.2.1.ext O0.2) (g := (mkF m 4 #[sr a1] [(.ref rE)])) rfl (hb hby d51_4)
  refine Goes.via (next := T2.setTop (mkF m 7 #[sr a1] [(.ref rE), (.ref rE)])) st2 ?_
  refine Goes.via (next := T2.setTop (mkF m 14 #[sr a1] [])) (fun t k => Jvm.RoadKit.acmp (g := (mkF m 7 #[sr a1] [(.ref rE), (.ref rE)])) X2 hx rfl rfl rfl (pc0 := 7) (pc' := 14) (same := true) rfl (hb hby d51_7) rfl (decide_eq_true rfl) (by decide) (by decide) k) ?_
  refine Goes.via (next := T2.setTop (mkF m 15 #[sr a1] [(.int (1 : Int32))])) (fun t k => XS.iconst X2.here hx rfl (hb hby d51_14) k) ?_
  obtain ⟨fs, hr, hrun, hended, hW, hsame⟩ := X2.leave (v := some (.int (1 : Int32))) (fun h => by rw [Bd.returns] at h; cases h)
  refine ⟨_, _, ?_, hrun, hended, _, _, rfl, ?_, ⟨_, rfl⟩, hW, hsame.mono (by decide) (by decide)⟩
  · exact retI X2 hx Bd.returns (hb hby d51_15) hr
  · show Q51_1 Z  h0 n0 _ T2.heap _
    rw [e2]
    exact ⟨rfl, N0, rfl⟩
theorem d51_10 : decode jdk_44_method_3_code 10 = .ok (.iconst 2, 1) := by decide +kernel
theorem d51_11 : decode jdk_44_method_3_code 11 = .ok (.goto 4, 3) := by decide +kernel
theorem ef_51_2 (m : MethodId) (x0 : Addr) : entryFrame m #[(.ref x0)] 1 = mkF m 0 #[.val (.ref x0)] [] := by first | (simp [entryFrame, mkF, argsToLocals, Value.category]; done) | rfl
def Q51_2 (Z : State) (h0 : Heap) (n0 : Nat) (v : Option Value) (h : Heap) (L : List Loc) : Prop := v = some (.int (2 : Int32)) ∧ Fr n0 L ∧ h = h0
set_option maxRecDepth 65536 in
set_option maxHeartbeats 40000000 in
theorem rm51_2 (l : Launch) (Z : State) (a0 : Array Value) (hw : ∀ d ∈ tables_1, d.before a0 Z = true) (ws : List Jvm.Cond) (a1 : Addr) (x1 : Addr) (w0 : Int32) (rE rL eL : Addr) (kL : ClassId) (nZ : Nat) (h0 : Heap) (n0 : Nat) (Z0 : n0 ≤ h0.size) (F1 : Fld Z h0 a1 "java/util/ImmutableCollections$List12" "e1" "Ljava/lang/Object;" (.ref x1)) (nE : x1 ≠ rE) (O0 : Old Z nZ h0) (hz : nZ ≤ n0) (St : own_St Z w0 rE rL eL kL) :
    MF l (⟨"java/util/ImmutableCollections$List12", "size", "()I"⟩ : MethodName) jdk_44_method_3_code 1 (some .int) ws ({ frames := 0, cells := 0, slots := 0, locals := 0 } : Room) #[(.ref a1)] Z h0 (Q51_2 Z  h0 n0) := by
  refine MetFree.of_bodySF (plainFor_of_name pn_8) hisR ?_
  intro p e s m args below meth c s₁ Bd hml0 hP hK
  obtain ⟨rfl, hZ, hh⟩ := hP
  have hx := Bd.exec
  have hby := Bd.bytes
  have hml : c.maxLocals = 1 := hml0
  have hown : s.vm.findClass "java/util/ImmutableCollections$List12" = some m.cls := findClass_of_methodNamed Bd.named
  have hnm := (name_of_methodNamed Bd.named Bd.method).1
  have X0 : Stand p l e ({ frames := 0, cells := 0, slots := 0, locals := 0 } : Room) s m #[(.ref a1)] below meth c s₁ [] 0 0 := Stand.of_body Bd
  have e0 : s₁.heap = h0 := by rw [← hh, Bd.state]; rfl
  have N0 := Fr.nil n0
  refine Goes.via (next := s₁.setTop (mkF m 0 #[.val (.ref a1)] [])) (fun t k => castTop (ef_51_2 m a1) k) ?_
  refine Goes.via (next := s₁.setTop (mkF m 1 #[sr a1] [(.ref a1)])) (fun t k => XS.aloadN X0.here hx rfl (hb hby d51_0) rfl rfl k) ?_
  obtain ⟨T1, X1, e1, st1⟩ := getF X0 hx hZ hown (host := "") (Or.inl (Wd hw 295 rfl)) Via.refl e0 F1 (g := (mkF m 1 #[sr a1] [(.ref a1)])) rfl rfl (hb hby d51_1)
  refine Goes.via (next := T1.setTop (mkF m 4 #[sr a1] [(.ref x1)])) st1 ?_
  obtain ⟨T2, X2, e2, st2⟩ := getS2 X1 hx hZ hown (Or.inr (Wd hw 303 rfl)) Via.refl e1 (St.2.2.1.ext O0.2) (g := (mkF m 4 #[sr a1] [(.ref x1)])) rfl (hb hby d51_4)
  refine Goes.via (next := T2.setTop (mkF m 7 #[sr a1] [(.ref rE), (.ref x1)])) st2 ?_
  have hc7_3 : ¬ (x1 = rE) := nE
  refine Goes.via (next := T2.setTop (mkF m 10 #[sr a1] [])) (fun t k => Jvm.RoadKit.acmp (g := (mkF m 7 #[sr a1] [(.ref rE), (.ref x1)])) X2 hx rfl rfl rfl (pc0 := 7) (pc' := 10) (same := false) rfl (hb hby d51_7) rfl (decide_eq_false fun q => hc7_3 (Value.ref.inj q)) (by decide) (by decide) k) ?_
  refine Goes.via (next := T2.setTop (mkF m 15 #[sr a1] [(.int (2 : Int32))])) (fun t k => XS.iconst X2.here hx rfl (hb hby d51_10) (XS.goto X2.here hx rfl (pc0 := 11) (pc' := 15) rfl (hb hby d51_11) (by decide) (by decide) k)) ?_
  obtain ⟨fs, hr, hrun, hended, hW, hsame⟩ := X2.leave (v := some (.int (2 : Int32))) (fun h => by rw [Bd.returns] at h; cases h)
  refine ⟨_, _, ?_, hrun, hended, _, _, rfl, ?_, ⟨_, rfl⟩, hW, hsame.mono (by decide) (by decide)⟩
  · exact retI X2 hx Bd.returns (hb hby d51_15) hr
  · show Q51_2 Z  h0 n0 _ T2.heap _
    rw [e2]
    exact ⟨rfl, N0, rfl⟩
theorem d52_0 : decode jdk_44_method_5_code 0 = .ok (.iload_n 1, 1) := by decide +kernel
theorem d52_1 : decode jdk_44_method_5_code 1 = .ok (.ifCond .ne 8, 3) := by decide +kernel
theorem d52_4 : decode jdk_44_method_5_code 4 = .ok (.aload_n 0, 1) := by decide +kernel
theorem d52_5 : decode jdk_44_method_5_code 5 = .ok (.getfield 13, 3) := by decide +kernel
theorem d52_8 : decode jdk_44_method_5_code 8 = .ok (.areturn, 1) := by decide +kernel
theorem ef_52_0 (m : MethodId) (x0 : Addr) : entryFrame m #[(.ref x0), (.int (0 : Int32))] 2 = mkF m 0 #[.val (.ref x0), .val (.int (0 : Int32))] [] := by first | (simp [entryFrame, mkF, argsToLocals, Value.category]; done) | rfl
def Q52_0 (Z : State) (x1 : Addr) (h0 : Heap) (n0 : Nat) (v : Option Value) (h : Heap) (L : List Loc) : Prop := v = some (.ref x1) ∧ Fr n0 L ∧ h = h0
set_option maxRecDepth 65536 in
set_option maxHeartbeats 40000000 in
theorem rm52_0 (l : Launch) (Z : State) (a0 : Array Value) (hw : ∀ d ∈ tables_1, d.before a0 Z = true) (ws : List Jvm.Cond) (a1 : Addr) (x1 : Addr) (h0 : Heap) (n0 : Nat) (Z0 : n0 ≤ h0.size) (F1 : Fld Z h0 a1 "java/util/ImmutableCollections$List12" "e0" "Ljava/lang/Object;" (.ref x1)) :
    MF l (⟨"java/util/ImmutableCollections$List12", "get", "(I)Ljava/lang/Object;"⟩ : MethodName) jdk_44_method_5_code 2 (some (.object "java/lang/Object")) ws ({ frames := 0, cells := 0, slots := 0, locals := 0 } : Room) #[(.ref a1), (.int (0 : Int32))] Z h0 (Q52_0 Z x1 h0 n0) := by
  refine MetFree.of_bodySF (plainFor_of_name pn_8) hisR ?_
  intro p e s m args below meth c s₁ Bd hml0 hP hK
  obtain ⟨rfl, hZ, hh⟩ := hP
  have hx := Bd.exec
  have hby := Bd.bytes
  have hml : c.maxLocals = 2 := hml0
  have hown : s.vm.findClass "java/util/ImmutableCollections$List12" = some m.cls := findClass_of_methodNamed Bd.named
  have hnm := (name_of_methodNamed Bd.named Bd.method).1
  have X0 : Stand p l e ({ frames := 0, cells := 0, slots := 0, locals := 0 } : Room) s m #[(.ref a1), (.int (0 : Int32))] below meth c s₁ [] 0 0 := Stand.of_body Bd
  have e0 : s₁.heap = h0 := by rw [← hh, Bd.state]; rfl
  have N0 := Fr.nil n0
  refine Goes.via (next := s₁.setTop (mkF m 0 #[.val (.ref a1), .val (.int (0 : Int32))] [])) (fun t k => castTop (ef_52_0 m a1) k) ?_
  refine Goes.via (next := s₁.setTop (mkF m 5 #[sr a1, si (0 : Int32)] [(.ref a1)])) (fun t k => XS.iloadN X0.here hx rfl (hb hby d52_0) rfl (XS.ifNo X0.here hx rfl (hb hby d52_1) rfl ((if0 _ _).trans (teq (show (0 : Int32) = (0 : Int32) from rfl)).2) (XS.aloadN X0.here hx rfl (hb hby d52_4) rfl rfl k))) ?_
  obtain ⟨T1, X1, e1, st1⟩ := getF X0 hx hZ hown (host := "") (Or.inl (Wd hw 293 rfl)) Via.refl e0 F1 (g := (mkF m 5 #[sr a1, si (0 : Int32)] [(.ref a1)])) rfl rfl (hb hby d52_5)
  refine Goes.via (next := T1.setTop (mkF m 8 #[sr a1, si (0 : Int32)] [(.ref x1)])) st1 ?_
  obtain ⟨fs, hr, hrun, hended, hW, hsame⟩ := X1.leave (v := some (.ref x1)) (fun h => by rw [Bd.returns] at h; cases h)
  refine ⟨_, _, ?_, hrun, hended, _, _, rfl, ?_, ⟨_, rfl⟩, hW, hsame.mono (by decide) (by decide)⟩
  · exact retOut X1 hx (t := (.object "java/lang/Object")) Bd.returns rfl (Or.inr (Or.inr (Or.inr (Or.inr ⟨rfl, rfl, rfl⟩)))) (hb hby d52_8) hr
  · show Q52_0 Z x1 h0 n0 _ T1.heap _
    rw [e1]
    exact ⟨rfl, N0, rfl⟩
theorem d52_9 : decode jdk_44_method_5_code 9 = .ok (.iload_n 1, 1) := by decide +kernel
theorem d52_10 : decode jdk_44_method_5_code 10 = .ok (.iconst 1, 1) := by decide +kernel
theorem d52_11 : decode jdk_44_method_5_code 11 = .ok (.if_icmp .ne 18, 3) := by decide +kernel
theorem d52_14 : decode jdk_44_method_5_code 14 = .ok (.aload_n 0, 1) := by decide +kernel
theorem d52_15 : decode jdk_44_method_5_code 15 = .ok (.getfield 24, 3) := by decide +kernel
theorem d52_18 : decode jdk_44_method_5_code 18 = .ok (.getstatic 19, 3) := by decide +kernel
theorem d52_21 : decode jdk_44_method_5_code 21 = .ok (.if_acmp .eq 8, 3) := by decide +kernel
theorem d52_24 : decode jdk_44_method_5_code 24 = .ok (.aload_n 0, 1) := by decide +kernel
theorem d52_25 : decode jdk_44_method_5_code 25 = .ok (.getfield 24, 3) := by decide +kernel
theorem d52_28 : decode jdk_44_method_5_code 28 = .ok (.areturn, 1) := by decide +kernel
theorem ef_52_1 (m : MethodId) (x0 : Addr) : entryFrame m #[(.ref x0), (.int (1 : Int32))] 2 = mkF m 0 #[.val (.ref x0), .val (.int (1 : Int32))] [] := by first | (simp [entryFrame, mkF, argsToLocals, Value.category]; done) | rfl
def Q52_1 (Z : State) (x1 : Addr) (h0 : Heap) (n0 : Nat) (v : Option Value) (h : Heap) (L : List Loc) : Prop := v = some (.ref x1) ∧ Fr n0 L ∧ h = h0
set_option maxRecDepth 65536 in
set_option maxHeartbeats 40000000 in
theorem rm52_1 (l : Launch) (Z : State) (a0 : Array Value) (hw : ∀ d ∈ tables_1, d.before a0 Z = true) (ws : List Jvm.Cond) (a1 : Addr) (x1 : Addr) (w0 : Int32) (rE rL eL : Addr) (kL : ClassId) (nZ : Nat) (h0 : Heap) (n0 : Nat) (Z0 : n0 ≤ h0.size) (F1 : Fld Z h0 a1 "java/util/ImmutableCollections$List12" "e1" "Ljava/lang/Object;" (.ref x1)) (nE : x1 ≠ rE) (O0 : Old Z nZ h0) (hz : nZ ≤ n0) (St : own_St Z w0 rE rL eL kL) :
    MF l (⟨"java/util/ImmutableCollections$List12", "get", "(I)Ljava/lang/Object;"⟩ : MethodName) jdk_44_method_5_code 2 (some (.object "java/lang/Object")) ws ({ frames := 0, cells := 0, slots := 0, locals := 0 } : Room) #[(.ref a1), (.int (1 : Int32))] Z h0 (Q52_1 Z x1 h0 n0) := by
  refine MetFree.of_bodySF (plainFor_of_name pn_8) hisR ?_
  intro p e s m args below meth c s₁ Bd hml0 hP hK
  obtain ⟨rfl, hZ, hh⟩ := hP
  have hx := Bd.exec
  have hby := Bd.bytes
  have hml : c.maxLocals = 2 := hml0
  have hown : s.vm.findClass "java/util/ImmutableCollections$List12" = some m.cls := findClass_of_methodNamed Bd.named
  have hnm := (name_of_methodNamed Bd.named Bd.method).1
  have X0 : Stand p l e ({ frames := 0, cells := 0, slots := 0, locals := 0 } : Room) s m #[(.ref a1), (.int (1 : Int32))] below meth c s₁ [] 0 0 := Stand.of_body Bd
  have e0 : s₁.heap = h0 := by rw [← hh, Bd.state]; rfl
  have N0 := Fr.nil n0
  refine Goes.via (next := s₁.setTop (mkF m 0 #[.val (.ref a1), .val (.int (1 : Int32))] [])) (fun t k => castTop (ef_52_1 m a1) k) ?_
  refine Goes.via (next := s₁.setTop (mkF m 15 #[sr a1, si (1 : Int32)] [(.ref a1)])) (fun t k => XS.iloadN X0.here hx rfl (hb hby d52_0) rfl (XS.ifYes X0.here hx rfl (pc0 := 1) (pc' := 9) rfl (hb hby d52_1) rfl ((if0 _ _).trans (feq (show ¬ ((1 : Int32) = (0 : Int32)) from (by decide))).2) (by decide) (by decide) (XS.iloadN X0.here hx rfl (hb hby d52_9) rfl (XS.iconst X0.here hx rfl (hb hby d52_10) (XS.icmpNo X0.here hx rfl (hb hby d52_11) rfl (teq (show (1 : Int32) = (1 : Int32) from rfl)).2 (XS.aloadN X0.here hx rfl (hb hby d52_14) rfl rfl k)))))) ?_
  obtain ⟨T1, X1, e1, st1⟩ := getF X0 hx hZ hown (host := "") (Or.inl (Wd hw 295 rfl)) Via.refl e0 F1 (g := (mkF m 15 #[sr a1, si (1 : Int32)] [(.ref a1)])) rfl rfl (hb hby d52_15)
  refine Goes.via (next := T1.setTop (mkF m 18 #[sr a1, si (1 : Int32)] [(.ref x1)])) st1 ?_
  obtain ⟨T2, X2, e2, st2⟩ := getS2 X1 hx hZ hown (Or.inr (Wd hw 303 rfl)) Via.refl e1 (St.2.2.1.ext O0.2) (g := (mkF m 18 #[sr a1, si (1 : Int32)] [(.ref x1)])) rfl (hb hby d52_18)
  refine Goes.via (next := T2.setTop (mkF m 21 #[sr a1, si (1 : Int32)] [(.ref rE), (.ref x1)])) st2 ?_
  have hc21_3 : ¬ (x1 = rE) := nE
  refine Goes.via (next := T2.setTop (mkF m 24 #[sr a1, si (1 : Int32)] [])) (fun t k => Jvm.RoadKit.acmp (g := (mkF m 21 #[sr a1, si (1 : Int32)] [(.ref rE), (.ref x1)])) X2 hx rfl rfl rfl (pc0 := 21) (pc' := 24) (same := false) rfl (hb hby d52_21) rfl (decide_eq_false fun q => hc21_3 (Value.ref.inj q)) (by decide) (by decide) k) ?_
  refine Goes.via (next := T2.setTop (mkF m 25 #[sr a1, si (1 : Int32)] [(.ref a1)])) (fun t k => XS.aloadN X2.here hx rfl (hb hby d52_24) rfl rfl k) ?_
  obtain ⟨T4, X4, e4, st4⟩ := getF X2 hx hZ hown (host := "") (Or.inl (Wd hw 295 rfl)) Via.refl e2 F1 (g := (mkF m 25 #[sr a1, si (1 : Int32)] [(.ref a1)])) rfl rfl (hb hby d52_25)
  refine Goes.via (next := T4.setTop (mkF m 28 #[sr a1, si (1 : Int32)] [(.ref x1)])) st4 ?_
  obtain ⟨fs, hr, hrun, hended, hW, hsame⟩ := X4.leave (v := some (.ref x1)) (fun h => by rw [Bd.returns] at h; cases h)
  refine ⟨_, _, ?_, hrun, hended, _, _, rfl, ?_, ⟨_, rfl⟩, hW, hsame.mono (by decide) (by decide)⟩
  · exact retOut X4 hx (t := (.object "java/lang/Object")) Bd.returns rfl (Or.inr (Or.inr (Or.inr (Or.inr ⟨rfl, rfl, rfl⟩)))) (hb hby d52_28) hr
  · show Q52_1 Z x1 h0 n0 _ T4.heap _
    rw [e4]
    exact ⟨rfl, N0, rfl⟩
theorem d25_0 : decode jdk_42_method_66_code 0 = .ok (.aload_n 0, 1) := by decide +kernel
theorem d25_1 : decode jdk_42_method_66_code 1 = .ok (.aload_n 1, 1) := by decide +kernel
theorem d25_2 : decode jdk_42_method_66_code 2 = .ok (.if_acmp .ne 5, 3) := by decide +kernel
theorem d25_5 : decode jdk_42_method_66_code 5 = .ok (.iconst 1, 1) := by decide +kernel
theorem d25_6 : decode jdk_42_method_66_code 6 = .ok (.ireturn, 1) := by decide +kernel
theorem ef_25_s (m : MethodId) (x0 : Addr) : entryFrame m #[(.ref x0), (.ref x0)] 3 = mkF m 0 #[.val (.ref x0), .val (.ref x0), .unset] [] := by first | (simp [entryFrame, mkF, argsToLocals, Value.category]; done) | rfl
def Q25_s (Z : State) (h0 : Heap) (n0 : Nat) (v : Option Value) (h : Heap) (L : List Loc) : Prop := v = some (.int (1 : Int32)) ∧ Fr n0 L ∧ h = h0
set_option maxRecDepth 65536 in
set_option maxHeartbeats 40000000 in
theorem rm25_s (l : Launch) (Z : State) (a0 : Array Value) (hw : ∀ d ∈ tables_1, d.before a0 Z = true) (ws : List Jvm.Cond) (a1 : Addr) (h0 : Heap) (n0 : Nat) (Z0 : n0 ≤ h0.size) :
    MF l (⟨"java/lang/String", "equals", "(Ljava/lang/Object;)Z"⟩ : MethodName) jdk_42_method_66_code 3 (some .boolean) ws ({ frames := 0, cells := 0, slots := 0, locals := 0 } : Room) #[(.ref a1), (.ref a1)] Z h0 (Q25_s Z  h0 n0) := by
  refine MetFree.of_bodySF (plainFor_of_name pn_1) hisR ?_
  intro p e s m args below meth c s₁ Bd hml0 hP hK
  obtain ⟨rfl, hZ, hh⟩ := hP
  have hx := Bd.exec
  have hby := Bd.bytes
  have hml : c.maxLocals = 3 := hml0
  have hown : s.vm.findClass "java/lang/String" = some m.cls := findClass_of_methodNamed Bd.named
  have hnm := (name_of_methodNamed Bd.named Bd.method).1
  have X0 : Stand p l e ({ frames := 0, cells := 0, slots := 0, locals := 0 } : Room) s m #[(.ref a1), (.ref a1)] below meth c s₁ [] 0 0 := Stand.of_body Bd
  have e0 : s₁.heap = h0 := by rw [← hh, Bd.state]; rfl
  have N0 := Fr.nil n0
  refine Goes.via (next := s₁.setTop (mkF m 0 #[.val (.ref a1), .val (.ref a1), .unset] [])) (fun t k => castTop (ef_25_s m a1) k) ?_
  refine Goes.via (next := s₁.setTop (mkF m 2 #[sr a1, sr a1, .unset] [(.ref a1), (.ref a1)])) (fun t k => XS.aloadN X0.here hx rfl (hb hby d25_0) rfl rfl (XS.aloadN X0.here hx rfl (hb hby d25_1) rfl rfl k)) ?_
  refine Goes.via (next := s₁.setTop (mkF m 5 #[sr a1, sr a1, .unset] [])) (fun t k => Jvm.RoadKit.acmp (g := (mkF m 2 #[sr a1, sr a1, .unset] [(.ref a1), (.ref a1)])) X0 hx rfl rfl rfl (pc0 := 2) (pc' := 5) (same := true) rfl (hb hby d25_2) rfl (decide_eq_true rfl) (by decide) (by decide) k) ?_
  refine Goes.via (next := s₁.setTop (mkF m 6 #[sr a1, sr a1, .unset] [(.int (1 : Int32))])) (fun t k => XS.iconst X0.here hx rfl (hb hby d25_5) k) ?_
  obtain ⟨fs, hr, hrun, hended, hW, hsame⟩ := X0.leave (v := some (.int (1 : Int32))) (fun h => by rw [Bd.returns] at h; cases h)
  refine ⟨_, _, ?_, hrun, hended, _, _, rfl, ?_, ⟨_, rfl⟩, hW, hsame.mono (by decide) (by decide)⟩
  · exact retN X0 hx (t := .boolean) Bd.returns (by simp) (hb hby d25_6) hr
  · show Q25_s Z  h0 n0 _ s₁.heap _
    rw [e0]
    exact ⟨rfl, N0, rfl⟩
theorem d49_0 : decode jdk_43_method_13_code 0 = .ok (.aload_n 0, 1) := by decide +kernel
theorem d49_1 : decode jdk_43_method_13_code 1 = .ok (.arraylength, 1) := by decide +kernel
theorem d49_2 : decode jdk_43_method_13_code 2 = .ok (.aload_n 1, 1) := by decide +kernel
theorem d49_3 : decode jdk_43_method_13_code 3 = .ok (.arraylength, 1) := by decide +kernel
theorem d49_4 : decode jdk_43_method_13_code 4 = .ok (.if_icmp .ne 30, 3) := by decide +kernel
theorem d49_7 : decode jdk_43_method_13_code 7 = .ok (.iconst 0, 1) := by decide +kernel
theorem d49_8 : decode jdk_43_method_13_code 8 = .ok (.istore_n 2, 1) := by decide +kernel
theorem d49_9 : decode jdk_43_method_13_code 9 = .ok (.iload_n 2, 1) := by decide +kernel
theorem d49_10 : decode jdk_43_method_13_code 10 = .ok (.aload_n 0, 1) := by decide +kernel
theorem d49_11 : decode jdk_43_method_13_code 11 = .ok (.arraylength, 1) := by decide +kernel
theorem d49_12 : decode jdk_43_method_13_code 12 = .ok (.if_icmp .ge 20, 3) := by decide +kernel
theorem d49_15 : decode jdk_43_method_13_code 15 = .ok (.aload_n 0, 1) := by decide +kernel
theorem d49_16 : decode jdk_43_method_13_code 16 = .ok (.iload_n 2, 1) := by decide +kernel
theorem d49_17 : decode jdk_43_method_13_code 17 = .ok (.baload, 1) := by decide +kernel
theorem d49_18 : decode jdk_43_method_13_code 18 = .ok (.aload_n 1, 1) := by decide +kernel
theorem d49_19 : decode jdk_43_method_13_code 19 = .ok (.iload_n 2, 1) := by decide +kernel
theorem d49_20 : decode jdk_43_method_13_code 20 = .ok (.baload, 1) := by decide +kernel
theorem d49_21 : decode jdk_43_method_13_code 21 = .ok (.if_icmp .eq 5, 3) := by decide +kernel
theorem d49_26 : decode jdk_43_method_13_code 26 = .ok (.iinc 2 1, 3) := by decide +kernel
theorem d49_29 : decode jdk_43_method_13_code 29 = .ok (.goto (-20), 3) := by decide +kernel
theorem d49_32 : decode jdk_43_method_13_code 32 = .ok (.iconst 1, 1) := by decide +kernel
theorem d49_33 : decode jdk_43_method_13_code 33 = .ok (.ireturn, 1) := by decide +kernel
theorem pn_16 : plainName "java/lang/StringLatin1" = true := by first | (simp [plainName, overriddenIn]; done) | decide +kernel
theorem ef_49 (m : MethodId) (x0 : Addr) (x1 : Addr) : entryFrame m #[(.ref x0), (.ref x1)] 3 = mkF m 0 #[.val (.ref x0), .val (.ref x1), .unset] [] := by first | (simp [entryFrame, mkF, argsToLocals, Value.category]; done) | rfl
def Q49 (Z : State) (h0 : Heap) (n0 : Nat) (v : Option Value) (h : Heap) (L : List Loc) : Prop := v = some (.int (1 : Int32)) ∧ Fr n0 L ∧ h = h0
set_option maxRecDepth 65536 in
set_option maxHeartbeats 40000000 in
theorem rm49 (l : Launch) (Z : State) (a0 : Array Value) (hw : ∀ d ∈ tables_1, d.before a0 Z = true) (ws : List Jvm.Cond) (a1 : Addr) (a2 : Addr) (k1 k2 : ClassId) (x0 x1 x2 x3 : Int32) (h0 : Heap) (n0 : Nat) (Z0 : n0 ≤ h0.size) (V1 : Arv Z h0 a1 k1 .byte (4 : Int32) [(.int x0), (.int x1), (.int x2), (.int x3)] (.int (0 : Int32))) (V2 : Arv Z h0 a2 k2 .byte (4 : Int32) [(.int x0), (.int x1), (.int x2), (.int x3)] (.int (0 : Int32))) :
    MF l (⟨"java/lang/StringLatin1", "equals", "([B[B)Z"⟩ : MethodName) jdk_43_method_13_code 3 (some .boolean) ws ({ frames := 0, cells := 0, slots := 0, locals := 0 } : Room) #[(.ref a1), (.ref a2)] Z h0 (Q49 Z  h0 n0) := by
  refine MetFree.of_bodySF (plainFor_of_name pn_16) hisR ?_
  intro p e s m args below meth c s₁ Bd hml0 hP hK
  obtain ⟨rfl, hZ, hh⟩ := hP
  have hx := Bd.exec
  have hby := Bd.bytes
  have hml : c.maxLocals = 3 := hml0
  have hown : s.vm.findClass "java/lang/StringLatin1" = some m.cls := findClass_of_methodNamed Bd.named
  have hnm := (name_of_methodNamed Bd.named Bd.method).1
  have X0 : Stand p l e ({ frames := 0, cells := 0, slots := 0, locals := 0 } : Room) s m #[(.ref a1), (.ref a2)] below meth c s₁ [] 0 0 := Stand.of_body Bd
  have e0 : s₁.heap = h0 := by rw [← hh, Bd.state]; rfl
  have N0 := Fr.nil n0
  refine Goes.via (next := s₁.setTop (mkF m 0 #[.val (.ref a1), .val (.ref a2), .unset] [])) (fun t k => castTop (ef_49 m a1 a2) k) ?_
  refine Goes.via (next := s₁.setTop (mkF m 1 #[sr a1, sr a2, .unset] [(.ref a1)])) (fun t k => XS.aloadN X0.here hx rfl (hb hby d49_0) rfl rfl k) ?_
  obtain ⟨cl1, Ar1, -, Sa1, Na1, -, -⟩ := id V1
  refine Goes.via (next := s₁.setTop (mkF m 2 #[sr a1, sr a2, .unset] [(.int (4 : Int32))])) (fun t k => X0.arraylength hx (by rw [e0]; exact Ar1.1) (State.isArrayOf_alike hZ.alike Ar1.2.1) (g := (mkF m 1 #[sr a1, sr a2, .unset] [(.ref a1)])) rfl rfl (hb hby d49_1) _ (by rw [len_of Sa1 Na1]; exact k)) ?_
  refine Goes.via (next := s₁.setTop (mkF m 3 #[sr a1, sr a2, .unset] [(.ref a2), (.int (4 : Int32))])) (fun t k => XS.aloadN X0.here hx rfl (hb hby d49_2) rfl rfl k) ?_
  obtain ⟨cl2, Ar2, -, Sa2, Na2, -, -⟩ := id V2
  refine Goes.via (next := s₁.setTop (mkF m 4 #[sr a1, sr a2, .unset] [(.int (4 : Int32)), (.int (4 : Int32))])) (fun t k => X0.arraylength hx (by rw [e0]; exact Ar2.1) (State.isArrayOf_alike hZ.alike Ar2.2.1) (g := (mkF m 3 #[sr a1, sr a2, .unset] [(.ref a2), (.int (4 : Int32))])) rfl rfl (hb hby d49_3) _ (by rw [len_of Sa2 Na2]; exact k)) ?_
  refine Goes.via (next := s₁.setTop (mkF m 7 #[sr a1, sr a2, .unset] [])) (fun t k => XS.icmpNo X0.here hx rfl (hb hby d49_4) rfl (teq (show (4 : Int32) = (4 : Int32) from rfl)).2 k) ?_
  refine Goes.via (next := s₁.setTop (mkF m 11 #[sr a1, sr a2, si (0 : Int32)] [(.ref a1), (.int (0 : Int32))])) (fun t k => XS.iconst X0.here hx rfl (hb hby d49_7) (XS.istoreN X0.here hx rfl (hb hby d49_8) rfl (l' := #[sr a1, sr a2, si (0 : Int32)]) rfl (XS.iloadN X0.here hx rfl (hb hby d49_9) rfl (XS.aloadN X0.here hx rfl (hb hby d49_10) rfl rfl k)))) ?_
  obtain ⟨cl3, Ar3, -, Sa3, Na3, -, -⟩ := id V1
  refine Goes.via (next := s₁.setTop (mkF m 12 #[sr a1, sr a2, si (0 : Int32)] [(.int (4 : Int32)), (.int (0 : Int32))])) (fun t k => X0.arraylength hx (by rw [e0]; exact Ar3.1) (State.isArrayOf_alike hZ.alike Ar3.2.1) (g := (mkF m 11 #[sr a1, sr a2, si (0 : Int32)] [(.ref a1), (.int (0 : Int32))])) rfl rfl (hb hby d49_11) _ (by rw [len_of Sa3 Na3]; exact k)) ?_
  refine Goes.via (next := s₁.setTop (mkF m 15 #[sr a1, sr a2, si (0 : Int32)] [])) (fun t k => XS.icmpNo X0.here hx rfl (hb hby d49_12) rfl (tlt (show (0 : Int32) < (4 : Int32) from (by decide))).2.1 k) ?_
  refine Goes.via (next := s₁.setTop (mkF m 17 #[sr a1, sr a2, si (0 : Int32)] [(.int (0 : Int32)), (.ref a1)])) (fun t k => XS.aloadN X0.here hx rfl (hb hby d49_15) rfl rfl (XS.iloadN X0.here hx rfl (hb hby d49_16) rfl k)) ?_
  obtain ⟨cl4, Ar4, qa4, Sa4, Na4, Ha4, Ga4⟩ := id V1
  have hin4 : ¬ ((0 : Int32) < 0 ∨ cl4.slots.size ≤ ((0 : Int32)).toNatClampNeg) := inb_of Sa4 ⟨by decide, by decide⟩
  have hat4 : cl4.slots[((0 : Int32)).toNatClampNeg]? = some (.int x0) := Ha4.at hin4 rfl
  refine Goes.via (next := s₁.setTop (mkF m 18 #[sr a1, sr a2, si (0 : Int32)] [(.int x0)])) (fun t k => X0.baloadBytes hx (j := (0 : Int32)) (v := (.int x0)) (by rw [e0]; exact Ar4.1) (State.isArrayOf_alike hZ.alike Ar4.2.1) Ar4.2.2 hin4 hat4 (g := (mkF m 17 #[sr a1, sr a2, si (0 : Int32)] [(.int (0 : Int32)), (.ref a1)])) rfl rfl (hb hby d49_17) _ k) ?_
  refine Goes.via (next := s₁.setTop (mkF m 20 #[sr a1, sr a2, si (0 : Int32)] [(.int (0 : Int32)), (.ref a2), (.int x0)])) (fun t k => XS.aloadN X0.here hx rfl (hb hby d49_18) rfl rfl (XS.iloadN X0.here hx rfl (hb hby d49_19) rfl k)) ?_
  obtain ⟨cl5, Ar5, qa5, Sa5, Na5, Ha5, Ga5⟩ := id V2
  have hin5 : ¬ ((0 : Int32) < 0 ∨ cl5.slots.size ≤ ((0 : Int32)).toNatClampNeg) := inb_of Sa5 ⟨by decide, by decide⟩
  have hat5 : cl5.slots[((0 : Int32)).toNatClampNeg]? = some (.int x0) := Ha5.at hin5 rfl
  refine Goes.via (next := s₁.setTop (mkF m 21 #[sr a1, sr a2, si (0 : Int32)] [(.int x0), (.int x0)])) (fun t k => X0.baloadBytes hx (j := (0 : Int32)) (v := (.int x0)) (by rw [e0]; exact Ar5.1) (State.isArrayOf_alike hZ.alike Ar5.2.1) Ar5.2.2 hin5 hat5 (g := (mkF m 20 #[sr a1, sr a2, si (0 : Int32)] [(.int (0 : Int32)), (.ref a2), (.int x0)])) rfl rfl (hb hby d49_20) _ k) ?_
  refine Goes.via (next := s₁.setTop (mkF m 26 #[sr a1, sr a2, si (0 : Int32)] [])) (fun t k => XS.icmpYes X0.here hx rfl (pc0 := 21) (pc' := 26) rfl (hb hby d49_21) rfl (teq (show x0 = x0 from rfl)).1 (by decide) (by decide) k) ?_
  refine Goes.via (next := s₁.setTop (mkF m 11 #[sr a1, sr a2, si (1 : Int32)] [(.ref a1), (.int (1 : Int32))])) (fun t k => XS.iinc X0.here hx rfl (hb hby d49_26) rfl (l' := #[sr a1, sr a2, si (1 : Int32)]) rfl (XS.goto X0.here hx rfl (pc0 := 29) (pc' := 9) rfl (hb hby d49_29) (by decide) (by decide) (XS.iloadN X0.here hx rfl (hb hby d49_9) rfl (XS.aloadN X0.here hx rfl (hb hby d49_10) rfl rfl k)))) ?_
  obtain ⟨cl6, Ar6, -, Sa6, Na6, -, -⟩ := id V1
  refine Goes.via (next := s₁.setTop (mkF m 12 #[sr a1, sr a2, si (1 : Int32)] [(.int (4 : Int32)), (.int (1 : Int32))])) (fun t k => X0.arraylength hx (by rw [e0]; exact Ar6.1) (State.isArrayOf_alike hZ.alike Ar6.2.1) (g := (mkF m 11 #[sr a1, sr a2, si (1 : Int32)] [(.ref a1), (.int (1 : Int32))])) rfl rfl (hb hby d49_11) _ (by rw [len_of Sa6 Na6]; exact k)) ?_
  refine Goes.via (next := s₁.setTop (mkF m 15 #[sr a1, sr a2, si (1 : Int32)] [])) (fun t k => XS.icmpNo X0.here hx rfl (hb hby d49_12) rfl (tlt (show (1 : Int32) < (4 : Int32) from (by decide))).2.1 k) ?_
  refine Goes.via (next := s₁.setTop (mkF m 17 #[sr a1, sr a2, si (1 : Int32)] [(.int (1 : Int32)), (.ref a1)])) (fun t k => XS.aloadN X0.here hx rfl (hb hby d49_15) rfl rfl (XS.iloadN X0.here hx rfl (hb hby d49_16) rfl k)) ?_
  obtain ⟨cl7, Ar7, qa7, Sa7, Na7, Ha7, Ga7⟩ := id V1
  have hin7 : ¬ ((1 : Int32) < 0 ∨ cl7.slots.size ≤ ((1 : Int32)).toNatClampNeg) := inb_of Sa7 ⟨by decide, by decide⟩
  have hat7 : cl7.slots[((1 : Int32)).toNatClampNeg]? = some (.int x1) := Ha7.at hin7 rfl
  refine Goes.via (next := s₁.setTop (mkF m 18 #[sr a1, sr a2, si (1 : Int32)] [(.int x1)])) (fun t k => X0.baloadBytes hx (j := (1 : Int32)) (v := (.int x1)) (by rw [e0]; exact Ar7.1) (State.isArrayOf_alike hZ.alike Ar7.2.1) Ar7.2.2 hin7 hat7 (g := (mkF m 17 #[sr a1, sr a2, si (1 : Int32)] [(.int (1 : Int32)), (.ref a1)])) rfl rfl (hb hby d49_17) _ k) ?_
  refine Goes.via (next := s₁.setTop (mkF m 20 #[sr a1, sr a2, si (1 : Int32)] [(.int (1 : Int32)), (.ref a2), (.int x1)])) (fun t k => XS.aloadN X0.here hx rfl (hb hby d49_18) rfl rfl (XS.iloadN X0.here hx rfl (hb hby d49_19) rfl k)) ?_
  obtain ⟨cl8, Ar8, qa8, Sa8, Na8, Ha8, Ga8⟩ := id V2
  have hin8 : ¬ ((1 : Int32) < 0 ∨ cl8.slots.size ≤ ((1 : Int32)).toNatClampNeg) := inb_of Sa8 ⟨by decide, by decide⟩
  have hat8 : cl8.slots[((1 : Int32)).toNatClampNeg]? = some (.int x1) := Ha8.at hin8 rfl
  refine Goes.via (next := s₁.setTop (mkF m 21 #[sr a1, sr a2, si (1 : Int32)] [(.int x1), (.int x1)])) (fun t k => X0.baloadBytes hx (j := (1 : Int32)) (v := (.int x1)) (by rw [e0]; exact Ar8.1) (State.isArrayOf_alike hZ.alike Ar8.2.1) Ar8.2.2 hin8 hat8 (g := (mkF m 20 #[sr a1, sr a2, si (1 : Int32)] [(.int (1 : Int32)), (.ref a2), (.int x1)])) rfl rfl (hb hby d49_20) _ k) ?_
  refine Goes.via (next := s₁.setTop (mkF m 26 #[sr a1, sr a2, si (1 : Int32)] [])) (fun t k => XS.icmpYes X0.here hx rfl (pc0 := 21) (pc' := 26) rfl (hb hby d49_21) rfl (teq (show x1 = x1 from rfl)).1 (by decide) (by decide) k) ?_
  refine Goes.via (next := s₁.setTop (mkF m 11 #[sr a1, sr a2, si (2 : Int32)] [(.ref a1), (.int (2 : Int32))])) (fun t k => XS.iinc X0.here hx rfl (hb hby d49_26) rfl (l' := #[sr a1, sr a2, si (2 : Int32)]) rfl (XS.goto X0.here hx rfl (pc0 := 29) (pc' := 9) rfl (hb hby d49_29) (by decide) (by decide) (XS.iloadN X0.here hx rfl (hb hby d49_9) rfl (XS.aloadN X0.here hx rfl (hb hby d49_10) rfl rfl k)))) ?_
  obtain ⟨cl9, Ar9, -, Sa9, Na9, -, -⟩ := id V1
  refine Goes.via (next := s₁.setTop (mkF m 12 #[sr a1, sr a2, si (2 : Int32)] [(.int (4 : Int32)), (.int (2 : Int32))])) (fun t k => X0.arraylength hx (by rw [e0]; exact Ar9.1) (State.isArrayOf_alike hZ.alike Ar9.2.1) (g := (mkF m 11 #[sr a1, sr a2, si (2 : Int32)] [(.ref a1), (.int (2 : Int32))])) rfl rfl (hb hby d49_11) _ (by rw [len_of Sa9 Na9]; exact k)) ?_
  refine Goes.via (next := s₁.setTop (mkF m 15 #[sr a1, sr a2, si (2 : Int32)] [])) (fun t k => XS.icmpNo X0.here hx rfl (hb hby d49_12) rfl (tlt (show (2 : Int32) < (4 : Int32) from (by decide))).2.1 k) ?_
  refine Goes.via (next := s₁.setTop (mkF m 17 #[sr a1, sr a2, si (2 : Int32)] [(.int (2 : Int32)), (.ref a1)])) (fun t k => XS.aloadN X0.here hx rfl (hb hby d49_15) rfl rfl (XS.iloadN X0.here hx rfl (hb hby d49_16) rfl k)) ?_
  obtain ⟨cl10, Ar10, qa10, Sa10, Na10, Ha10, Ga10⟩ := id V1
  have hin10 : ¬ ((2 : Int32) < 0 ∨ cl10.slots.size ≤ ((2 : Int32)).toNatClampNeg) := inb_of Sa10 ⟨by decide, by decide⟩
  have hat10 : cl10.slots[((2 : Int32)).toNatClampNeg]? = some (.int x2) := Ha10.at hin10 rfl
  refine Goes.via (next := s₁.setTop (mkF m 18 #[sr a1, sr a2, si (2 : Int32)] [(.int x2)])) (fun t k => X0.baloadBytes hx (j := (2 : Int32)) (v := (.int x2)) (by rw [e0]; exact Ar10.1) (State.isArrayOf_alike hZ.alike Ar10.2.1) Ar10.2.2 hin10 hat10 (g := (mkF m 17 #[sr a1, sr a2, si (2 : Int32)] [(.int (2 : Int32)), (.ref a1)])) rfl rfl (hb hby d49_17) _ k) ?_
  refine Goes.via (next := s₁.setTop (mkF m 20 #[sr a1, sr a2, si (2 : Int32)] [(.int (2 : Int32)), (.ref a2), (.int x2)])) (fun t k => XS.aloadN X0.here hx rfl (hb hby d49_18) rfl rfl (XS.iloadN X0.here hx rfl (hb hby d49_19) rfl k)) ?_
  obtain ⟨cl11, Ar11, qa11, Sa11, Na11, Ha11, Ga11⟩ := id V2
  have hin11 : ¬ ((2 : Int32) < 0 ∨ cl11.slots.size ≤ ((2 : Int32)).toNatClampNeg) := inb_of Sa11 ⟨by decide, by decide⟩
  have hat11 : cl11.slots[((2 : Int32)).toNatClampNeg]? = some (.int x2) := Ha11.at hin11 rfl
  refine Goes.via (next := s₁.setTop (mkF m 21 #[sr a1, sr a2, si (2 : Int32)] [(.int x2), (.int x2)])) (fun t k => X0.baloadBytes hx (j := (2 : Int32)) (v := (.int x2)) (by rw [e0]; exact Ar11.1) (State.isArrayOf_alike hZ.alike Ar11.2.1) Ar11.2.2 hin11 hat11 (g := (mkF m 20 #[sr a1, sr a2, si (2 : Int32)] [(.int (2 : Int32)), (.ref a2), (.int x2)])) rfl rfl (hb hby d49_20) _ k) ?_
  refine Goes.via (next := s₁.setTop (mkF m 26 #[sr a1, sr a2, si (2 : Int32)] [])) (fun t k => XS.icmpYes X0.here hx rfl (pc0 := 21) (pc' := 26) rfl (hb hby d49_21) rfl (teq (show x2 = x2 from rfl)).1 (by decide) (by decide) k) ?_
  refine Goes.via (next := s₁.setTop (mkF m 11 #[sr a1, sr a2, si (3 : Int32)] [(.ref a1), (.int (3 : Int32))])) (fun t k => XS.iinc X0.here hx rfl (hb hby d49_26) rfl (l' := #[sr a1, sr a2, si (3 : Int32)]) rfl (XS.goto X0.here hx rfl (pc0 := 29) (pc' := 9) rfl (hb hby d49_29) (by decide) (by decide) (XS.iloadN X0.here hx rfl (hb hby d49_9) rfl (XS.aloadN X0.here hx rfl (hb hby d49_10) rfl rfl k)))) ?_
  obtain ⟨cl12, Ar12, -, Sa12, Na12, -, -⟩ := id V1
  refine Goes.via (next := s₁.setTop (mkF m 12 #[sr a1, sr a2, si (3 : Int32)] [(.int (4 : Int32)), (.int (3 : Int32))])) (fun t k => X0.arraylength hx (by rw [e0]; exact Ar12.1) (State.isArrayOf_alike hZ.alike Ar12.2.1) (g := (mkF m 11 #[sr a1, sr a2, si (3 : Int32)] [(.ref a1), (.int (3 : Int32))])) rfl rfl (hb hby d49_11) _ (by rw [len_of Sa12 Na12]; exact k)) ?_
  refine Goes.via (next := s₁.setTop (mkF m 15 #[sr a1, sr a2, si (3 : Int32)] [])) (fun t k => XS.icmpNo X0.here hx rfl (hb hby d49_12) rfl (tlt (show (3 : Int32) < (4 : Int32) from (by decide))).2.1 k) ?_
  refine Goes.via (next := s₁.setTop (mkF m 17 #[sr a1, sr a2, si (3 : Int32)] [(.int (3 : Int32)), (.ref a1)])) (fun t k => XS.aloadN X0.here hx rfl (hb hby d49_15) rfl rfl (XS.iloadN X0.here hx rfl (hb hby d49_16) rfl k)) ?_
  obtain ⟨cl13, Ar13, qa13, Sa13, Na13, Ha13, Ga13⟩ := id V1
  have hin13 : ¬ ((3 : Int32) < 0 ∨ cl13.slots.size ≤ ((3 : Int32)).toNatClampNeg) := inb_of Sa13 ⟨by decide, by decide⟩
  have hat13 : cl13.slots[((3 : Int32)).toNatClampNeg]? = some (.int x3) := Ha13.at hin13 rfl
  refine Goes.via (next := s₁.setTop (mkF m 18 #[sr a1, sr a2, si (3 : Int32)] [(.int x3)])) (fun t k => X0.baloadBytes hx (j := (3 : Int32)) (v := (.int x3)) (by rw [e0]; exact Ar13.1) (State.isArrayOf_alike hZ.alike Ar13.2.1) Ar13.2.2 hin13 hat13 (g := (mkF m 17 #[sr a1, sr a2, si (3 : Int32)] [(.int (3 : Int32)), (.ref a1)])) rfl rfl (hb hby d49_17) _ k) ?_
  refine Goes.via (next := s₁.setTop (mkF m 20 #[sr a1, sr a2, si (3 : Int32)] [(.int (3 : Int32)), (.ref a2), (.int x3)])) (fun t k => XS.aloadN X0.here hx rfl (hb hby d49_18) rfl rfl (XS.iloadN X0.here hx rfl (hb hby d49_19) rfl k)) ?_
  obtain ⟨cl14, Ar14, qa14, Sa14, Na14, Ha14, Ga14⟩ := id V2
  have hin14 : ¬ ((3 : Int32) < 0 ∨ cl14.slots.size ≤ ((3 : Int32)).toNatClampNeg) := inb_of Sa14 ⟨by decide, by decide⟩
  have hat14 : cl14.slots[((3 : Int32)).toNatClampNeg]? = some (.int x3) := Ha14.at hin14 rfl
  refine Goes.via (next := s₁.setTop (mkF m 21 #[sr a1, sr a2, si (3 : Int32)] [(.int x3), (.int x3)])) (fun t k => X0.baloadBytes hx (j := (3 : Int32)) (v := (.int x3)) (by rw [e0]; exact Ar14.1) (State.isArrayOf_alike hZ.alike Ar14.2.1) Ar14.2.2 hin14 hat14 (g := (mkF m 20 #[sr a1, sr a2, si (3 : Int32)] [(.int (3 : Int32)), (.ref a2), (.int x3)])) rfl rfl (hb hby d49_20) _ k) ?_
  refine Goes.via (next := s₁.setTop (mkF m 26 #[sr a1, sr a2, si (3 : Int32)] [])) (fun t k => XS.icmpYes X0.here hx rfl (pc0 := 21) (pc' := 26) rfl (hb hby d49_21) rfl (teq (show x3 = x3 from rfl)).1 (by decide) (by decide) k) ?_
  refine Goes.via (next := s₁.setTop (mkF m 11 #[sr a1, sr a2, si (4 : Int32)] [(.ref a1), (.int (4 : Int32))])) (fun t k => XS.iinc X0.here hx rfl (hb hby d49_26) rfl (l' := #[sr a1, sr a2, si (4 : Int32)]) rfl (XS.goto X0.here hx rfl (pc0 := 29) (pc' := 9) rfl (hb hby d49_29) (by decide) (by decide) (XS.iloadN X0.here hx rfl (hb hby d49_9) rfl (XS.aloadN X0.here hx rfl (hb hby d49_10) rfl rfl k)))) ?_
  obtain ⟨cl15, Ar15, -, Sa15, Na15, -, -⟩ := id V1
  refine Goes.via (next := s₁.setTop (mkF m 12 #[sr a1, sr a2, si (4 : Int32)] [(.int (4 : Int32)), (.int (4 : Int32))])) (fun t k => X0.arraylength hx (by rw [e0]; exact Ar15.1) (State.isArrayOf_alike hZ.alike Ar15.2.1) (g := (mkF m 11 #[sr a1, sr a2, si (4 : Int32)] [(.ref a1), (.int (4 : Int32))])) rfl rfl (hb hby d49_11) _ (by rw [len_of Sa15 Na15]; exact k)) ?_
  refine Goes.via (next := s₁.setTop (mkF m 32 #[sr a1, sr a2, si (4 : Int32)] [])) (fun t k => XS.icmpYes X0.here hx rfl (pc0 := 12) (pc' := 32) rfl (hb hby d49_12) rfl (flt (show ¬ ((4 : Int32) < (4 : Int32)) from (by decide))).2.1 (by decide) (by decide) k) ?_
  refine Goes.via (next := s₁.setTop (mkF m 33 #[sr a1, sr a2, si (4 : Int32)] [(.int (1 : Int32))])) (fun t k => XS.iconst X0.here hx rfl (hb hby d49_32) k) ?_
  obtain ⟨fs, hr, hrun, hended, hW, hsame⟩ := X0.leave (v := some (.int (1 : Int32))) (fun h => by rw [Bd.returns] at h; cases h)
  refine ⟨_, _, ?_, hrun, hended, _, _, rfl, ?_, ⟨_, rfl⟩, hW, hsame.mono (by decide) (by decide)⟩
  · exact retN X0 hx (t := .boolean) Bd.returns (by simp) (hb hby d49_33) hr
  · show Q49 Z  h0 n0 _ s₁.heap _
    rw [e0]
    exact ⟨rfl, N0, rfl⟩
theorem d25_7 : decode jdk_42_method_66_code 7 = .ok (.aload_n 1, 1) := by decide +kernel
theorem d25_8 : decode jdk_42_method_66_code 8 = .ok (.instanceof 10, 3) := by decide +kernel
theorem d25_11 : decode jdk_42_method_66_code 11 = .ok (.ifCond .eq 43, 3) := by decide +kernel
theorem d25_14 : decode jdk_42_method_66_code 14 = .ok (.aload_n 1, 1) := by decide +kernel
theorem d25_15 : decode jdk_42_method_66_code 15 = .ok (.checkcast 10, 3) := by decide +kernel
theorem d25_18 : decode jdk_42_method_66_code 18 = .ok (.astore_n 2, 1) := by decide +kernel
theorem d25_19 : decode jdk_42_method_66_code 19 = .ok (.getstatic 38, 3) := by decide +kernel
theorem d25_22 : decode jdk_42_method_66_code 22 = .ok (.ifCond .eq 14, 3) := by decide +kernel
theorem d25_25 : decode jdk_42_method_66_code 25 = .ok (.aload_n 0, 1) := by decide +kernel
theorem d25_26 : decode jdk_42_method_66_code 26 = .ok (.getfield 15, 3) := by decide +kernel
theorem d25_29 : decode jdk_42_method_66_code 29 = .ok (.aload_n 2, 1) := by decide +kernel
theorem d25_30 : decode jdk_42_method_66_code 30 = .ok (.getfield 15, 3) := by decide +kernel
theorem d25_33 : decode jdk_42_method_66_code 33 = .ok (.if_icmp .ne 21, 3) := by decide +kernel
theorem d25_36 : decode jdk_42_method_66_code 36 = .ok (.aload_n 0, 1) := by decide +kernel
theorem d25_37 : decode jdk_42_method_66_code 37 = .ok (.getfield 9, 3) := by decide +kernel
theorem d25_40 : decode jdk_42_method_66_code 40 = .ok (.aload_n 2, 1) := by decide +kernel
theorem d25_41 : decode jdk_42_method_66_code 41 = .ok (.getfield 9, 3) := by decide +kernel
theorem d25_44 : decode jdk_42_method_66_code 44 = .ok (.invokestatic 541, 3) := by decide +kernel
theorem d25_47 : decode jdk_42_method_66_code 47 = .ok (.ifCond .eq 7, 3) := by decide +kernel
theorem d25_50 : decode jdk_42_method_66_code 50 = .ok (.iconst 1, 1) := by decide +kernel
theorem d25_51 : decode jdk_42_method_66_code 51 = .ok (.goto 4, 3) := by decide +kernel
theorem d25_55 : decode jdk_42_method_66_code 55 = .ok (.ireturn, 1) := by decide +kernel
theorem pd_26 : parseMethodDescriptor "([B[B)Z" = some ⟨[(.array .byte), (.array .byte)], some .boolean⟩ := by decide +kernel
theorem ef_25_c (m : MethodId) (x0 : Addr) (x1 : Addr) : entryFrame m #[(.ref x0), (.ref x1)] 3 = mkF m 0 #[.val (.ref x0), .val (.ref x1), .unset] [] := by first | (simp [entryFrame, mkF, argsToLocals, Value.category]; done) | rfl
def Q25_c (Z : State) (h0 : Heap) (n0 : Nat) (v : Option Value) (h : Heap) (L : List Loc) : Prop := v = some (.int (1 : Int32)) ∧ Fr n0 L ∧ h = h0
set_option maxRecDepth 65536 in
set_option maxHeartbeats 40000000 in
theorem rm25_c (l : Launch) (Z : State) (a0 : Array Value) (hw : ∀ d ∈ tables_1, d.before a0 Z = true) (ws : List Jvm.Cond) (a1 : Addr) (a2 : Addr) (t1 t2 : Addr) (k1 k2 : ClassId) (x0 x1 x2 x3 : Int32) (w0 : Int32) (rE rL eL : Addr) (kL : ClassId) (nZ : Nat) (h0 : Heap) (n0 : Nat) (Z0 : n0 ≤ h0.size) (Es1 : Exa Z h0 a1 "java/lang/String") (Cs1 : Fld Z h0 a1 "java/lang/String" "coder" "B" (.int (0 : Int32))) (Fs1 : Fld Z h0 a1 "java/lang/String" "value" "[B" (.ref t1)) (Vs1 : Arv Z h0 t1 k1 .byte (4 : Int32) [(.int x0), (.int x1), (.int x2), (.int x3)] (.int (0 : Int32))) (Es2 : Exa Z h0 a2 "java/lang/String") (Cs2 : Fld Z h0 a2 "java/lang/String" "coder" "B" (.int (0 : Int32))) (Fs2 : Fld Z h0 a2 "java/lang/String" "value" "[B" (.ref t2)) (Vs2 : Arv Z h0 t2 k2 .byte (4 : Int32) [(.int x0), (.int x1), (.int x2), (.int x3)] (.int (0 : Int32))) (ne12 : a1 ≠ a2) (O0 : Old Z nZ h0) (hz : nZ ≤ n0) (St : own_St Z w0 rE rL eL kL) :
    MF l (⟨"java/lang/String", "equals", "(Ljava/lang/Object;)Z"⟩ : MethodName) jdk_42_method_66_code 3 (some .boolean) ws ({ frames := 1, cells := 0, slots := 0, locals := 14 } : Room) #[(.ref a1), (.ref a2)] Z h0 (Q25_c Z  h0 n0) := by
  refine MetFree.of_bodySF (plainFor_of_name pn_1) hisR ?_
  intro p e s m args below meth c s₁ Bd hml0 hP hK
  obtain ⟨rfl, hZ, hh⟩ := hP
  have hx := Bd.exec
  have hby := Bd.bytes
  have hml : c.maxLocals = 3 := hml0
  have hown : s.vm.findClass "java/lang/String" = some m.cls := findClass_of_methodNamed Bd.named
  have hnm := (name_of_methodNamed Bd.named Bd.method).1
  have X0 : Stand p l e ({ frames := 1, cells := 0, slots := 0, locals := 14 } : Room) s m #[(.ref a1), (.ref a2)] below meth c s₁ [] 0 0 := Stand.of_body Bd
  have e0 : s₁.heap = h0 := by rw [← hh, Bd.state]; rfl
  have N0 := Fr.nil n0
  refine Goes.via (next := s₁.setTop (mkF m 0 #[.val (.ref a1), .val (.ref a2), .unset] [])) (fun t k => castTop (ef_25_c m a1 a2) k) ?_
  refine Goes.via (next := s₁.setTop (mkF m 2 #[sr a1, sr a2, .unset] [(.ref a2), (.ref a1)])) (fun t k => XS.aloadN X0.here hx rfl (hb hby d25_0) rfl rfl (XS.aloadN X0.here hx rfl (hb hby d25_1) rfl rfl k)) ?_
  have hc2_1 : ¬ (a1 = a2) := ne12
  refine Goes.via (next := s₁.setTop (mkF m 7 #[sr a1, sr a2, .unset] [])) (fun t k => Jvm.RoadKit.acmp (g := (mkF m 2 #[sr a1, sr a2, .unset] [(.ref a2), (.ref a1)])) X0 hx rfl rfl rfl (pc0 := 2) (pc' := 7) (same := false) rfl (hb hby d25_2) rfl (decide_eq_false fun q => hc2_1 (Value.ref.inj q)) (by decide) (by decide) k) ?_
  refine Goes.via (next := s₁.setTop (mkF m 8 #[sr a1, sr a2, .unset] [(.ref a2)])) (fun t k => XS.aloadN X0.here hx rfl (hb hby d25_7) rfl rfl k) ?_
  obtain ⟨T2, X2, e2, st2⟩ := instY X0 hx hZ hown (Wd hw 276 rfl) e0 (Ins.self Es2) (g := (mkF m 8 #[sr a1, sr a2, .unset] [(.ref a2)])) rfl rfl (hb hby d25_8)
  refine Goes.via (next := T2.setTop (mkF m 11 #[sr a1, sr a2, .unset] [(.int (1 : Int32))])) st2 ?_
  refine Goes.via (next := T2.setTop (mkF m 14 #[sr a1, sr a2, .unset] [])) (fun t k => XS.ifNo X2.here hx rfl (hb hby d25_11) rfl ((if0 _ _).trans (feq (show ¬ ((1 : Int32) = (0 : Int32)) from (by decide))).1) k) ?_
  refine Goes.via (next := T2.setTop (mkF m 15 #[sr a1, sr a2, .unset] [(.ref a2)])) (fun t k => XS.aloadN X2.here hx rfl (hb hby d25_14) rfl rfl k) ?_
  obtain ⟨T3, X3, e3, st3⟩ := castY X2 hx hZ hown (Wd hw 276 rfl) e2 (Ins.self Es2) (g := (mkF m 15 #[sr a1, sr a2, .unset] [(.ref a2)])) rfl rfl (hb hby d25_15)
  refine Goes.via (next := T3.setTop (mkF m 18 #[sr a1, sr a2, .unset] [(.ref a2)])) st3 ?_
  refine Goes.via (next := T3.setTop (mkF m 19 #[sr a1, sr a2, sr a2] [])) (fun t k => XS.astoreN X3.here hx rfl (hb hby d25_18) rfl rfl (l' := #[sr a1, sr a2, sr a2]) rfl k) ?_
  obtain ⟨T4, X4, e4, st4⟩ := getS2 X3 hx hZ hown (host := "") (Or.inl (Wd hw 18 rfl)) Via.refl e3 (St.1.ext O0.2) (g := (mkF m 19 #[sr a1, sr a2, sr a2] [])) rfl (hb hby d25_19)
  refine Goes.via (next := T4.setTop (mkF m 22 #[sr a1, sr a2, sr a2] [(.int w0)])) st4 ?_
  have hc22_5 : ¬ (w0 = (0 : Int32)) := St.2.1
  refine Goes.via (next := T4.setTop (mkF m 25 #[sr a1, sr a2, sr a2] [])) (fun t k => XS.ifNo X4.here hx rfl (hb hby d25_22) rfl ((if0 _ _).trans (feq hc22_5).1) k) ?_
  refine Goes.via (next := T4.setTop (mkF m 26 #[sr a1, sr a2, sr a2] [(.ref a1)])) (fun t k => XS.aloadN X4.here hx rfl (hb hby d25_25) rfl rfl k) ?_
  obtain ⟨T6, X6, e6, st6⟩ := getF X4 hx hZ hown (host := "") (Or.inl (Wd hw 30 rfl)) Via.refl e4 Cs1 (g := (mkF m 26 #[sr a1, sr a2, sr a2] [(.ref a1)])) rfl rfl (hb hby d25_26)
  refine Goes.via (next := T6.setTop (mkF m 29 #[sr a1, sr a2, sr a2] [(.int (0 : Int32))])) st6 ?_
  refine Goes.via (next := T6.setTop (mkF m 30 #[sr a1, sr a2, sr a2] [(.ref a2), (.int (0 : Int32))])) (fun t k => XS.aloadN X6.here hx rfl (hb hby d25_29) rfl rfl k) ?_
  obtain ⟨T7, X7, e7, st7⟩ := getF X6 hx hZ hown (host := "") (Or.inl (Wd hw 30 rfl)) Via.refl e6 Cs2 (g := (mkF m 30 #[sr a1, sr a2, sr a2] [(.ref a2), (.int (0 : Int32))])) rfl rfl (hb hby d25_30)
  refine Goes.via (next := T7.setTop (mkF m 33 #[sr a1, sr a2, sr a2] [(.int (0 : Int32)), (.int (0 : Int32))])) st7 ?_
  refine Goes.via (next := T7.setTop (mkF m 36 #[sr a1, sr a2, sr a2] [])) (fun t k => XS.icmpNo X7.here hx rfl (hb hby d25_33) rfl (teq (show (0 : Int32) = (0 : Int32) from rfl)).2 k) ?_
  refine Goes.via (next := T7.setTop (mkF m 37 #[sr a1, sr a2, sr a2] [(.ref a1)])) (fun t k => XS.aloadN X7.here hx rfl (hb hby d25_36) rfl rfl k) ?_
  obtain ⟨T8, X8, e8, st8⟩ := getF X7 hx hZ hown (host := "") (Or.inl (Wd hw 32 rfl)) Via.refl e7 Fs1 (g := (mkF m 37 #[sr a1, sr a2, sr a2] [(.ref a1)])) rfl rfl (hb hby d25_37)
  refine Goes.via (next := T8.setTop (mkF m 40 #[sr a1, sr a2, sr a2] [(.ref t1)])) st8 ?_
  refine Goes.via (next := T8.setTop (mkF m 41 #[sr a1, sr a2, sr a2] [(.ref a2), (.ref t1)])) (fun t k => XS.aloadN X8.here hx rfl (hb hby d25_40) rfl rfl k) ?_
  obtain ⟨T9, X9, e9, st9⟩ := getF X8 hx hZ hown (host := "") (Or.inl (Wd hw 32 rfl)) Via.refl e8 Fs2 (g := (mkF m 41 #[sr a1, sr a2, sr a2] [(.ref a2), (.ref t1)])) rfl rfl (hb hby d25_41)
  refine Goes.via (next := T9.setTop (mkF m 44 #[sr a1, sr a2, sr a2] [(.ref t2), (.ref t1)])) st9 ?_
  obtain ⟨_, _, ⟨T10, L10, k10, n10⟩, -, X10, ⟨Lc10, hQ10, l10, y10, z10⟩, st10⟩ := Jvm.LawKit.callS X9 hx (y := (⟨"java/lang/StringLatin1", "equals", "([B[B)Z"⟩ : MethodName)) hown (mvT hZ (Wd hw 277 rfl)) (mvT hZ (Wd hw 278 rfl)) (mvT hZ (Wd hw 279 rfl)) (mvT hZ (Wd hw 280 rfl)) (by decide) (backOf (W := 0) (rm49 l Z a0 hw [] t1 t2 k1 k2 x0 x1 x2 x3 h0 n0 Z0 Vs1 Vs2) hZ (Wd hw 280 rfl) (Wd hw 279 rfl) (by decide) (by decide)) (g := (mkF m 44 #[sr a1, sr a2, sr a2] [(.ref t2), (.ref t1)])) rfl (by rw [hml]; rfl) (argsL := [(.ref t1), (.ref t2)]) (rest := []) (lenOf pd_26 rfl) rfl (by show 2 * 0 + _ ≤ _; exact Nat.le_of_eq rfl) (hb hby d25_44) (fun _ _ => ⟨rfl, e9, (by decide : 0 + 0 ≤ _), (by decide : 0 + 0 ≤ _)⟩)
  dsimp only [Pt.U, Pt.locs, Pt.cells, Pt.slots] at X10 l10 y10 z10 st10 hQ10
  subst l10 y10 z10
  obtain ⟨rfl, N10q, er10⟩ := hQ10
  have e10 : T10.heap = h0 := er10
  have N10 := Fr.app N0 N10q
  refine Goes.via (next := T10.setTop (mkF m 47 #[sr a1, sr a2, sr a2] [(.int (1 : Int32))])) st10 ?_
  refine Goes.via (next := T10.setTop (mkF m 50 #[sr a1, sr a2, sr a2] [])) (fun t k => XS.ifNo X10.here hx rfl (hb hby d25_47) rfl ((if0 _ _).trans (feq (show ¬ ((1 : Int32) = (0 : Int32)) from (by decide))).1) k) ?_
  refine Goes.via (next := T10.setTop (mkF m 55 #[sr a1, sr a2, sr a2] [(.int (1 : Int32))])) (fun t k => XS.iconst X10.here hx rfl (hb hby d25_50) (XS.goto X10.here hx rfl (pc0 := 51) (pc' := 55) rfl (hb hby d25_51) (by decide) (by decide) k)) ?_
  obtain ⟨fs, hr, hrun, hended, hW, hsame⟩ := X10.leave (v := some (.int (1 : Int32))) (fun h => by rw [Bd.returns] at h; cases h)
  refine ⟨_, _, ?_, hrun, hended, _, _, rfl, ?_, ⟨_, rfl⟩, hW, hsame.mono (by decide) (by decide)⟩
  · exact retN X10 hx (t := .boolean) Bd.returns (by simp) (hb hby d25_55) hr
  · show Q25_c Z  h0 n0 _ T10.heap _
    rw [e10]
    exact ⟨rfl, N10, rfl⟩
theorem d26_0 : decode prog_62_method_5_code 0 = .ok (.new 41, 3) := by decide +kernel
theorem d26_3 : decode prog_62_method_5_code 3 = .ok (.dup, 1) := by decide +kernel
theorem d26_4 : decode prog_62_method_5_code 4 = .ok (.invokespecial 43, 3) := by decide +kernel
theorem d26_7 : decode prog_62_method_5_code 7 = .ok (.ldc 44, 2) := by decide +kernel
theorem d26_9 : decode prog_62_method_5_code 9 = .ok (.invokevirtual 46, 3) := by decide +kernel
theorem d26_12 : decode prog_62_method_5_code 12 = .ok (.aload_n 0, 1) := by decide +kernel
theorem d26_13 : decode prog_62_method_5_code 13 = .ok (.getfield 7, 3) := by decide +kernel
theorem d26_16 : decode prog_62_method_5_code 16 = .ok (.iconst 0, 1) := by decide +kernel
theorem d26_17 : decode prog_62_method_5_code 17 = .ok (.invokeinterface 50 2, 5) := by decide +kernel
theorem d26_22 : decode prog_62_method_5_code 22 = .ok (.checkcast 36, 3) := by decide +kernel
theorem d26_25 : decode prog_62_method_5_code 25 = .ok (.invokevirtual 46, 3) := by decide +kernel
theorem d26_28 : decode prog_62_method_5_code 28 = .ok (.ldc 44, 2) := by decide +kernel
theorem d26_30 : decode prog_62_method_5_code 30 = .ok (.invokevirtual 46, 3) := by decide +kernel
theorem d26_33 : decode prog_62_method_5_code 33 = .ok (.invokevirtual 54, 3) := by decide +kernel
theorem d26_36 : decode prog_62_method_5_code 36 = .ok (.astore_n 1, 1) := by decide +kernel
theorem d26_37 : decode prog_62_method_5_code 37 = .ok (.aload_n 0, 1) := by decide +kernel
theorem d26_38 : decode prog_62_method_5_code 38 = .ok (.invokevirtual 58, 3) := by decide +kernel
theorem d26_41 : decode prog_62_method_5_code 41 = .ok (.ifCond .ne 35, 3) := by decide +kernel
theorem d26_76 : decode prog_62_method_5_code 76 = .ok (.aload_n 1, 1) := by decide +kernel
theorem d26_77 : decode prog_62_method_5_code 77 = .ok (.areturn, 1) := by decide +kernel
theorem pd_27 : parseMethodDescriptor "(Ljava/lang/String;)Ljava/lang/StringBuilder;" = some ⟨[(.object "java/lang/String")], some (.object "java/lang/StringBuilder")⟩ := by decide +kernel
theorem pd_28 : parseMethodDescriptor "(I)Ljava/lang/Object;" = some ⟨[.int], some (.object "java/lang/Object")⟩ := by decide +kernel
theorem pd_29 : parseMethodDescriptor "()Ljava/lang/String;" = some ⟨[], some (.object "java/lang/String")⟩ := by decide +kernel
theorem ef_26_p (m : MethodId) (x0 : Addr) : entryFrame m #[(.ref x0)] 2 = mkF m 0 #[.val (.ref x0), .unset] [] := by first | (simp [entryFrame, mkF, argsToLocals, Value.category]; done) | rfl
def Q26_p (Z : State) (x0 x1 : Int32) (h0 : Heap) (n0 : Nat) (v : Option Value) (h : Heap) (vm : Vm) (L : List Loc) : Prop := ∃ (r t : Addr) (k : ClassId), v = some (.ref r) ∧ Fr n0 L ∧ n0 ≤ r ∧ h0.size ≤ r ∧ Keep h0 h [] ∧ Exa Z h r "java/lang/String" ∧ Fld Z h r "java/lang/String" "coder" "B" (.int (0 : Int32)) ∧ Fld Z h r "java/lang/String" "value" "[B" (.ref t) ∧ Arv Z h t k .byte (4 : Int32) [(.int (39 : Int32)), (.int x0), (.int x1), (.int (39 : Int32))] (.int (0 : Int32))
set_option maxRecDepth 65536 in
set_option maxHeartbeats 40000000 in
theorem rm26_p (l : Launch) (Z : State) (a0 : Array Value) (hw : ∀ d ∈ tables_1, d.before a0 Z = true) (ws : List Jvm.Cond) (a1 : Addr) (l1 t1 : Addr) (k1 : ClassId) (r2 : Addr) (ua : Addr) (tu : Addr) (ku : ClassId) (x0 x1 : Int32) (w0 : Int32) (rE rL eL : Addr) (kL : ClassId) (nZ : Nat) (h0 : Heap) (n0 : Nat) (Z0 : n0 ≤ h0.size) (Eo : Exa Z h0 a1 "com/example/attributes_to_claims/attributestoclaims/cli/CommandArguments$Option") (Fo : Fld Z h0 a1 "com/example/attributes_to_claims/attributestoclaims/cli/CommandArguments$Option" "names" "Ljava/util/List;" (.ref r2)) (Fl : Fld Z h0 a1 "com/example/attributes_to_claims/attributestoclaims/cli/CommandArguments$Option" "label" "Ljava/lang/String;" (.ref l1)) (El : Exa Z h0 l1 "java/lang/String") (Fe : Fld Z h0 l1 "java/lang/String" "value" "[B" (.ref t1)) (Ve : Arv Z h0 t1 k1 .byte (0 : Int32) [] (.int (0 : Int32))) (Ep : Exa Z h0 r2 "java/util/ImmutableCollections$List12") (Fp : Fld Z h0 r2 "java/util/ImmutableCollections$List12" "e0" "Ljava/lang/Object;" (.ref ua)) (Eu : Exa Z h0 ua "java/lang/String") (Cu : Fld Z h0 ua "java/lang/String" "coder" "B" (.int (0 : Int32))) (Fu : Fld Z h0 ua "java/lang/String" "value" "[B" (.ref tu)) (Vu : Arv Z h0 tu ku .byte (2 : Int32) [(.int x0), (.int x1)] (.int (0 : Int32))) (O0 : Old Z nZ h0) (hz : nZ ≤ n0) (St : own_St Z w0 rE rL eL kL) (hn0 : n0 = h0.size) (hcQ : Jvm.Lit.constHeld Z "com/example/attributes_to_claims/attributestoclaims/cli/CommandArguments$Option" 44) (hcw : Jvm.Lit.compactW.before a0 Z = true) :
    MFS l (⟨"com/example/attributes_to_claims/attributestoclaims/cli/CommandArguments$Option", "quoted", "()Ljava/lang/String;"⟩ : MethodName) prog_62_method_5_code 2 (some (.object "java/lang/String")) ws ({ frames := 6, cells := 6, slots := 36, locals := 91 } : Room) #[(.ref a1)] Z h0 (fun vm => IB Z vm ["x", ""]) (Q26_p Z x0 x1 h0 n0) := by
  refine MetFree.of_bodySF (plainFor_of_name pn_12) hisR ?_
  intro p e s m args below meth c s₁ Bd hml0 hP hK
  obtain ⟨rfl, hZ, hh, hI⟩ := hP
  have hx := Bd.exec
  have hby := Bd.bytes
  have hml : c.maxLocals = 2 := hml0
  have hown : s.vm.findClass "com/example/attributes_to_claims/attributestoclaims/cli/CommandArguments$Option" = some m.cls := findClass_of_methodNamed Bd.named
  have hnm := (name_of_methodNamed Bd.named Bd.method).1
  have X0 : Stand p l e ({ frames := 6, cells := 6, slots := 36, locals := 91 } : Room) (s.setVm s.vm) m #[(.ref a1)] below meth c s₁ [] 0 0 := Stand.of_body Bd
  have e0 : s₁.heap = h0 := by rw [← hh, Bd.state]; rfl
  have N0 := Fr.nil n0
  have hS : s.Since s.vm 0 := (State.WarmedH.refl s).since 0
  have hk : 0 ≤ h0.size := Nat.zero_le _
  refine Goes.via (next := s₁.setTop (mkF m 0 #[.val (.ref a1), .unset] [])) (fun t k => castTop (ef_26_p m a1) k) ?_
  obtain ⟨T1, h1, X1, e1, E1, A1, D1, -, st1⟩ := newO X0 hx hZ hown (Wd hw 159 rfl) (Wd hw 160 rfl) (Wd hw 161 rfl) e0 (g := (mkF m 0 #[sr a1, .unset] [])) rfl (hb hby d26_0) (by decide) (by decide)
  obtain ⟨b1, g1⟩ : ∃ z, z = h0.size := ⟨_, rfl⟩
  rw [← g1] at A1 D1 st1
  have lt_a1_b1 : a1 < b1 := Nat.lt_of_lt_of_le Eo.lt (Nat.le_of_eq g1.symm)
  have lt_l1_b1 : l1 < b1 := Nat.lt_of_lt_of_le El.lt (Nat.le_of_eq g1.symm)
  have lt_t1_b1 : t1 < b1 := Nat.lt_of_lt_of_le Ve.lt (Nat.le_of_eq g1.symm)
  have lt_r2_b1 : r2 < b1 := Nat.lt_of_lt_of_le Ep.lt (Nat.le_of_eq g1.symm)
  have lt_ua_b1 : ua < b1 := Nat.lt_of_lt_of_le Eu.lt (Nat.le_of_eq g1.symm)
  have lt_tu_b1 : tu < b1 := Nat.lt_of_lt_of_le Vu.lt (Nat.le_of_eq g1.symm)
  have ge_b1 : n0 ≤ b1 := Nat.le_trans Z0 (Nat.le_of_eq g1.symm)
  have sz_b1 : h0.size ≤ b1 := Nat.le_trans (Keep.refl h0 []).1 (Nat.le_of_eq g1.symm)
  have F1_11 := Eo.ext E1
  have F1_12 := Fo.ext E1
  have F1_13 := Fl.ext E1
  have F1_14 := El.ext E1
  have F1_15 := Fe.ext E1
  have F1_16 := Ve.ext E1
  have F1_17 := Ep.ext E1
  have F1_18 := Fp.ext E1
  have F1_19 := Eu.ext E1
  have F1_20 := Cu.ext E1
  have F1_21 := Fu.ext E1
  have F1_22 := Vu.ext E1
  have K1 : Keep h0 h1 [] := (Keep.refl h0 []).ext E1
  have Z1 : n0 ≤ h1.size := Nat.le_trans Z0 E1.1
  have O1 := O0.ext E1
  have hk := Nat.le_trans hk E1.1
  have F1_value : Fld Z h1 b1 "java/lang/AbstractStringBuilder" "value" "[B" .null := D1 (Or.inl (Wd hw 174 rfl)) (ty := (.array .byte)) (by decide)
  have F1_coder : Fld Z h1 b1 "java/lang/AbstractStringBuilder" "coder" "B" (.int (0 : Int32)) := D1 (Or.inl (Wd hw 176 rfl)) (ty := .byte) (by decide)
  have F1_count : Fld Z h1 b1 "java/lang/AbstractStringBuilder" "count" "I" (.int (0 : Int32)) := D1 (Or.inl (Wd hw 199 rfl)) (ty := .int) (by decide)
  refine Goes.via (next := T1.setTop (mkF m 3 #[sr a1, .unset] [(.ref b1)])) st1 ?_
  refine Goes.via (next := T1.setTop (mkF m 4 #[sr a1, .unset] [(.ref b1), (.ref b1)])) (fun t k => XS.dup X1.here hx rfl (hb hby d26_3) rfl rfl k) ?_
  obtain ⟨_, _, ⟨T2, L2, k2, n2⟩, -, X2, ⟨Lc2, hQ2, l2, y2, z2⟩, st2⟩ := X1.specialBack hx (y := (⟨"java/lang/StringBuilder", "<init>", "()V"⟩ : MethodName)) rfl hown (mvT hZ (Wd hw 162 rfl)) (mvT hZ (Wd hw 163 rfl)) (mvT hZ (Wd hw 164 rfl)) (by decide) (backOf (W := 1) (rm27 l Z a0 hw [] b1 w0 rE rL eL kL nZ h1 n0 Z1 A1 F1_value F1_coder F1_count ge_b1 O1 hz St) hZ (Wd hw 164 rfl) (Wd hw 161 rfl) (by decide) (by decide)) (g := (mkF m 4 #[sr a1, .unset] [(.ref b1), (.ref b1)])) rfl (by rw [hml]; rfl) (Steps.refl _) (a := b1) (argsL := []) (rest := [(.ref b1)]) (lenOf pd_5 rfl) rfl (by show 2 * 0 + _ ≤ _; exact Nat.le_of_eq rfl) (hb hby d26_4) (fun _ _ => ⟨rfl, e1, (by decide : 1 + 1 ≤ _), (by decide : 4 + 16 ≤ _)⟩)
  dsimp only [Pt.U, Pt.locs, Pt.cells, Pt.slots] at X2 l2 y2 z2 st2 hQ2
  subst l2 y2 z2
  obtain ⟨rfl, N2q, Kc2, Ec2, Cc2, Nc2, t2, kt2, gt2, zt2, Vq2, Vc2⟩ := hQ2
  have lt_a1_t2 : a1 < t2 := Nat.lt_of_lt_of_le F1_11.lt zt2
  have lt_l1_t2 : l1 < t2 := Nat.lt_of_lt_of_le F1_14.lt zt2
  have lt_t1_t2 : t1 < t2 := Nat.lt_of_lt_of_le F1_16.lt zt2
  have lt_r2_t2 : r2 < t2 := Nat.lt_of_lt_of_le F1_17.lt zt2
  have lt_ua_t2 : ua < t2 := Nat.lt_of_lt_of_le F1_19.lt zt2
  have lt_tu_t2 : tu < t2 := Nat.lt_of_lt_of_le F1_22.lt zt2
  have lt_b1_t2 : b1 < t2 := Nat.lt_of_lt_of_le A1.lt zt2
  have sz_t2 : h0.size ≤ t2 := Nat.le_trans K1.1 zt2
  have F2_44 := F1_11.keep Kc2
  have F2_45 := F1_12.keep Kc2 (fun q => (Nat.ne_of_lt lt_a1_b1) (List.mem_singleton.mp q))
  have F2_46 := F1_13.keep Kc2 (fun q => (Nat.ne_of_lt lt_a1_b1) (List.mem_singleton.mp q))
  have F2_47 := F1_14.keep Kc2
  have F2_48 := F1_15.keep Kc2 (fun q => (Nat.ne_of_lt lt_l1_b1) (List.mem_singleton.mp q))
  have F2_49 := F1_16.keep Kc2 (fun q => (Nat.ne_of_lt lt_t1_b1) (List.mem_singleton.mp q))
  have F2_50 := F1_17.keep Kc2
  have F2_51 := F1_18.keep Kc2 (fun q => (Nat.ne_of_lt lt_r2_b1) (List.mem_singleton.mp q))
  have F2_52 := F1_19.keep Kc2
  have F2_53 := F1_20.keep Kc2 (fun q => (Nat.ne_of_lt lt_ua_b1) (List.mem_singleton.mp q))
  have F2_54 := F1_21.keep Kc2 (fun q => (Nat.ne_of_lt lt_ua_b1) (List.mem_singleton.mp q))
  have F2_55 := F1_22.keep Kc2 (fun q => (Nat.ne_of_lt lt_tu_b1) (List.mem_singleton.mp q))
  have F2_56 := A1.keep Kc2
  have K2 : Keep h0 T2.heap [] := K1.trans Kc2 (fun x hx => by cases List.mem_singleton.mp hx; exact Or.inr sz_b1)
  have Z2 : n0 ≤ T2.heap.size := Nat.le_trans Z1 Kc2.1
  have O2 := O1.keep Kc2 (fun x hx => by cases List.mem_singleton.mp hx; exact (Nat.le_trans hz ge_b1))
  have hk := Nat.le_trans hk Kc2.1
  have N2 := Fr.app N0 N2q
  refine Goes.via (next := T2.setTop (mkF m 7 #[sr a1, .unset] [(.ref b1)])) (fun t k => st2.trans k) ?_
  obtain ⟨la3, T3, h3, kk3, lb3, lk3, X3, e3, E3, S3, hk3, Zw3, ow3, Ex3, Fc3, Fv3, Va3, lta3, ltb3, I3, Lt3, st3⟩ := ldcSVL X2 hx hZ hown (Wd hw 177 rfl) (own_wS hw) rfl hS hk (by rw [hh, ← hn0]; exact N2) (fun b cl q => by rw [hh]; exact O0.2.2 b cl q) hI (by decide) hcQ hcw (vs := [(.int (39 : Int32))]) (z := (1 : Int32)) ⟨by decide, by decide⟩ (by decide) (by decide) (g := (mkF m 7 #[sr a1, .unset] [(.ref b1)])) rfl (hb hby d26_7) (n := 4) (by decide) (by decide) (by decide) (by decide)
  have F3_64 := F2_44.ext E3
  have F3_65 := F2_45.ext E3
  have F3_66 := F2_46.ext E3
  have F3_67 := F2_47.ext E3
  have F3_68 := F2_48.ext E3
  have F3_69 := F2_49.ext E3
  have F3_70 := F2_50.ext E3
  have F3_71 := F2_51.ext E3
  have F3_72 := F2_52.ext E3
  have F3_73 := F2_53.ext E3
  have F3_74 := F2_54.ext E3
  have F3_75 := F2_55.ext E3
  have F3_76 := F2_56.ext E3
  have F3_77 := Cc2.ext E3
  have F3_78 := Nc2.ext E3
  have F3_79 := Vq2.ext E3
  have F3_80 := Vc2.ext E3
  have K3 : Keep h0 h3 [] := K2.ext E3
  have Z3 : n0 ≤ h3.size := Nat.le_trans Z2 E3.1
  have O3 := O2.ext E3
  have hZ := Zw3
  have hown := ow3
  have hS := S3
  have hk := hk3
  have hI := I3
  have nx3 : la3 ≠ b1 := Exa.ne Ex3 F3_76 (by decide)
  have ny3 : b1 ≠ lb3 := Exa.neArv F3_76 Va3 (Wd hw 160 rfl)
  have nu3 : la3 ≠ t2 := Exa.neArv Ex3 F3_80 (Wd hw 5 rfl)
  have nv3 : lb3 ≠ t2 := ownNeLen Va3 F3_80 (by decide)
  refine Goes.via (next := T3.setTop (mkF m 9 #[sr a1, .unset] [(.ref la3), (.ref b1)])) st3 ?_
  obtain ⟨Lw4, X4w, N4w⟩ := ownPack X3 N2
  obtain ⟨cq5, kq5, q5a, q5b, q5c⟩ := isOf hZ e3 F3_76
  obtain ⟨_, _, ⟨T5, L5, k5, n5⟩, -, X5, ⟨Lc5, hQ5, l5, y5, z5⟩, st5⟩ := X4w.virtualBack hx (y := (⟨"java/lang/StringBuilder", "append", "(Ljava/lang/String;)Ljava/lang/StringBuilder;"⟩ : MethodName)) (z := (⟨"java/lang/StringBuilder", "append", "(Ljava/lang/String;)Ljava/lang/StringBuilder;"⟩ : MethodName)) hown (mvT hZ (Wd hw 178 rfl)) (mvT hZ (Wd hw 179 rfl)) (notFace_of_selects (args := #[]) (mvT hZ (Wd hw 181 rfl))) (mvT hZ (Wd hw 181 rfl)) (mvT hZ (Wd hw 180 rfl)) (by decide) (backOf (W := 0) (rm29_0 l Z a0 hw [] b1 la3 t2 lb3 kt2 lk3 (39 : Int32) w0 rE rL eL kL nZ h3 n0 Z3 F3_76 F3_79 F3_77 F3_78 F3_80 gt2 Ex3 Fc3 Fv3 Va3 nv3 nu3 (Nat.ne_of_lt lt_b1_t2) ge_b1 nx3 (Ne.symm ny3) O3 hz St) hZ (Wd hw 182 rfl) (Wd hw 161 rfl) (by decide) (by decide)) q5a q5c (g := (mkF m 9 #[sr a1, .unset] [(.ref la3), (.ref b1)])) rfl (by rw [hml]; rfl) (Steps.refl _) (argsL := [(.ref la3)]) (rest := []) (lenOf pd_27 rfl) rfl (by show 2 * 0 + _ ≤ _; exact Nat.le_of_eq rfl) (hb hby d26_9) (fun _ _ => ⟨rfl, e3, (by decide : 4 + 0 ≤ _), (by decide : 28 + 0 ≤ _)⟩)
  dsimp only [Pt.U, Pt.locs, Pt.cells, Pt.slots] at X5 l5 y5 z5 st5 hQ5
  subst l5 y5 z5
  obtain ⟨rfl, N5q, Kc5, Ec5, Fq5, Cq5, Nq5, Vc5⟩ := hQ5
  have F5_100 := F3_64.keep Kc5
  have F5_101 := F3_65.keep Kc5 (ownNin2 (Nat.ne_of_lt lt_a1_b1) (Nat.ne_of_lt lt_a1_t2))
  have F5_102 := F3_66.keep Kc5 (ownNin2 (Nat.ne_of_lt lt_a1_b1) (Nat.ne_of_lt lt_a1_t2))
  have F5_103 := F3_67.keep Kc5
  have F5_104 := F3_68.keep Kc5 (ownNin2 (Nat.ne_of_lt lt_l1_b1) (Nat.ne_of_lt lt_l1_t2))
  have F5_105 := F3_69.keep Kc5 (ownNin2 (Nat.ne_of_lt lt_t1_b1) (Nat.ne_of_lt lt_t1_t2))
  have F5_106 := F3_70.keep Kc5
  have F5_107 := F3_71.keep Kc5 (ownNin2 (Nat.ne_of_lt lt_r2_b1) (Nat.ne_of_lt lt_r2_t2))
  have F5_108 := F3_72.keep Kc5
  have F5_109 := F3_73.keep Kc5 (ownNin2 (Nat.ne_of_lt lt_ua_b1) (Nat.ne_of_lt lt_ua_t2))
  have F5_110 := F3_74.keep Kc5 (ownNin2 (Nat.ne_of_lt lt_ua_b1) (Nat.ne_of_lt lt_ua_t2))
  have F5_111 := F3_75.keep Kc5 (ownNin2 (Nat.ne_of_lt lt_tu_b1) (Nat.ne_of_lt lt_tu_t2))
  have F5_112 := F3_76.keep Kc5
  have F5_113 := Ex3.keep Kc5
  have F5_114 := Fc3.keep Kc5 (ownNin2 nx3 nu3)
  have F5_115 := Fv3.keep Kc5 (ownNin2 nx3 nu3)
  have F5_116 := Va3.keep Kc5 (ownNin2 (Ne.symm ny3) nv3)
  have K5 : Keep h0 T5.heap [] := K3.trans Kc5 (ownAll2 (P := fun x => x ∈ _ ∨ _ ≤ x) (Or.inr sz_b1) (Or.inr sz_t2))
  have Z5 : n0 ≤ T5.heap.size := Nat.le_trans Z3 Kc5.1
  have O5 := O3.keep Kc5 (ownAll2 (P := fun x => _ ≤ x) (Nat.le_trans hz ge_b1) (Nat.le_trans hz gt2))
  have hk := Nat.le_trans hk Kc5.1
  have N5 := Fr.app N4w N5q
  refine Goes.via (next := T5.setTop (mkF m 12 #[sr a1, .unset] [(.ref b1)])) (fun t k => st5.trans k) ?_
  refine Goes.via (next := T5.setTop (mkF m 13 #[sr a1, .unset] [(.ref a1), (.ref b1)])) (fun t k => XS.aloadN X5.here hx rfl (hb hby d26_12) rfl rfl k) ?_
  obtain ⟨T6, X6, e6, st6⟩ := getF X5 hx hZ hown (host := "") (Or.inl (Wd hw 59 rfl)) Via.refl rfl F5_101 (g := (mkF m 13 #[sr a1, .unset] [(.ref a1), (.ref b1)])) rfl rfl (hb hby d26_13)
  refine Goes.via (next := T6.setTop (mkF m 16 #[sr a1, .unset] [(.ref r2), (.ref b1)])) st6 ?_
  refine Goes.via (next := T6.setTop (mkF m 17 #[sr a1, .unset] [(.int (0 : Int32)), (.ref r2), (.ref b1)])) (fun t k => XS.iconst X6.here hx rfl (hb hby d26_16) k) ?_
  obtain ⟨Lw7, X7w, N7w⟩ := ownPack X6 N5
  obtain ⟨cq8, kq8, q8a, q8b, q8c⟩ := isOf hZ e6 F5_106
  obtain ⟨_, _, ⟨T8, L8, k8, n8⟩, -, X8, ⟨Lc8, hQ8, l8, y8, z8⟩, st8⟩ := X7w.interfaceBack hx (xi := (⟨"java/util/List", "get", "(I)Ljava/lang/Object;"⟩ : MethodName)) (y := (⟨"java/util/ImmutableCollections$List12", "get", "(I)Ljava/lang/Object;"⟩ : MethodName)) hown (mvT hZ (Wd hw 225 rfl)) (mvT hZ (Wd hw 142 rfl)) (mvT hZ (Wd hw 143 rfl)) (mvT hZ (Wd hw 304 rfl)) (mvT hZ (Wd hw 305 rfl)) (mvT hZ (Wd hw 306 rfl)) (mvT hZ (Wd hw 307 rfl)) (mvT hZ (Wd hw 301 rfl)) (by decide) (backOf (W := 1) (rm52_0 l Z a0 hw [] r2 ua T5.heap n0 Z5 F5_107) hZ (Wd hw 308 rfl) (Wd hw 283 rfl) (by decide) (by decide)) q8a q8b q8c (g := (mkF m 17 #[sr a1, .unset] [(.int (0 : Int32)), (.ref r2), (.ref b1)])) rfl (by rw [hml]; rfl) (Steps.refl _) (argsL := [(.int (0 : Int32))]) (rest := [(.ref b1)]) (lenOf pd_28 rfl) rfl (by show 2 * 0 + _ ≤ _; exact Nat.le_of_eq rfl) (hb hby d26_17) (fun _ _ => ⟨rfl, e6, (by decide : 4 + 0 ≤ _), (by decide : 28 + 0 ≤ _)⟩)
  dsimp only [Pt.U, Pt.locs, Pt.cells, Pt.slots] at X8 l8 y8 z8 st8 hQ8
  subst l8 y8 z8
  obtain ⟨rfl, N8q, er8⟩ := hQ8
  have e8 : T8.heap = T5.heap := er8
  have N8 := Fr.app N7w N8q
  refine Goes.via (next := T8.setTop (mkF m 22 #[sr a1, .unset] [(.ref ua), (.ref b1)])) (fun t k => st8.trans k) ?_
  obtain ⟨T9, X9, e9, st9⟩ := castY X8 hx hZ hown (Wd hw 226 rfl) e8 (Ins.self F5_108) (g := (mkF m 22 #[sr a1, .unset] [(.ref ua), (.ref b1)])) rfl rfl (hb hby d26_22)
  refine Goes.via (next := T9.setTop (mkF m 25 #[sr a1, .unset] [(.ref ua), (.ref b1)])) st9 ?_
  obtain ⟨Lw10, X10w, N10w⟩ := ownPack X9 N8
  obtain ⟨cq11, kq11, q11a, q11b, q11c⟩ := isOf hZ e9 F5_112
  obtain ⟨_, _, ⟨T11, L11, k11, n11⟩, -, X11, ⟨Lc11, hQ11, l11, y11, z11⟩, st11⟩ := X10w.virtualBack hx (y := (⟨"java/lang/StringBuilder", "append", "(Ljava/lang/String;)Ljava/lang/StringBuilder;"⟩ : MethodName)) (z := (⟨"java/lang/StringBuilder", "append", "(Ljava/lang/String;)Ljava/lang/StringBuilder;"⟩ : MethodName)) hown (mvT hZ (Wd hw 178 rfl)) (mvT hZ (Wd hw 179 rfl)) (notFace_of_selects (args := #[]) (mvT hZ (Wd hw 181 rfl))) (mvT hZ (Wd hw 181 rfl)) (mvT hZ (Wd hw 180 rfl)) (by decide) (backOf (W := 0) (rm29_1 l Z a0 hw [] b1 ua t2 tu kt2 ku (39 : Int32) x0 x1 w0 rE rL eL kL nZ T5.heap n0 Z5 F5_112 Fq5 Cq5 Nq5 Vc5 gt2 F5_108 F5_109 F5_110 F5_111 (Nat.ne_of_lt lt_tu_t2) (Nat.ne_of_lt lt_ua_t2) (Nat.ne_of_lt lt_b1_t2) ge_b1 (Nat.ne_of_lt lt_ua_b1) (Nat.ne_of_lt lt_tu_b1) O5 hz St) hZ (Wd hw 182 rfl) (Wd hw 161 rfl) (by decide) (by decide)) q11a q11c (g := (mkF m 25 #[sr a1, .unset] [(.ref ua), (.ref b1)])) rfl (by rw [hml]; rfl) (Steps.refl _) (argsL := [(.ref ua)]) (rest := []) (lenOf pd_27 rfl) rfl (by show 2 * 0 + _ ≤ _; exact Nat.le_of_eq rfl) (hb hby d26_25) (fun _ _ => ⟨rfl, e9, (by decide : 4 + 0 ≤ _), (by decide : 28 + 0 ≤ _)⟩)
  dsimp only [Pt.U, Pt.locs, Pt.cells, Pt.slots] at X11 l11 y11 z11 st11 hQ11
  subst l11 y11 z11
  obtain ⟨rfl, N11q, Kc11, Ec11, Fq11, Cq11, Nq11, Vc11⟩ := hQ11
  have F11_144 := F5_100.keep Kc11
  have F11_145 := F5_101.keep Kc11 (ownNin2 (Nat.ne_of_lt lt_a1_b1) (Nat.ne_of_lt lt_a1_t2))
  have F11_146 := F5_102.keep Kc11 (ownNin2 (Nat.ne_of_lt lt_a1_b1) (Nat.ne_of_lt lt_a1_t2))
  have F11_147 := F5_103.keep Kc11
  have F11_148 := F5_104.keep Kc11 (ownNin2 (Nat.ne_of_lt lt_l1_b1) (Nat.ne_of_lt lt_l1_t2))
  have F11_149 := F5_105.keep Kc11 (ownNin2 (Nat.ne_of_lt lt_t1_b1) (Nat.ne_of_lt lt_t1_t2))
  have F11_150 := F5_106.keep Kc11
  have F11_151 := F5_107.keep Kc11 (ownNin2 (Nat.ne_of_lt lt_r2_b1) (Nat.ne_of_lt lt_r2_t2))
  have F11_152 := F5_108.keep Kc11
  have F11_153 := F5_109.keep Kc11 (ownNin2 (Nat.ne_of_lt lt_ua_b1) (Nat.ne_of_lt lt_ua_t2))
  have F11_154 := F5_110.keep Kc11 (ownNin2 (Nat.ne_of_lt lt_ua_b1) (Nat.ne_of_lt lt_ua_t2))
  have F11_155 := F5_111.keep Kc11 (ownNin2 (Nat.ne_of_lt lt_tu_b1) (Nat.ne_of_lt lt_tu_t2))
  have F11_156 := F5_112.keep Kc11
  have F11_157 := F5_113.keep Kc11
  have F11_158 := F5_114.keep Kc11 (ownNin2 nx3 nu3)
  have F11_159 := F5_115.keep Kc11 (ownNin2 nx3 nu3)
  have F11_160 := F5_116.keep Kc11 (ownNin2 (Ne.symm ny3) nv3)
  have K11 : Keep h0 T11.heap [] := K5.trans Kc11 (ownAll2 (P := fun x => x ∈ _ ∨ _ ≤ x) (Or.inr sz_b1) (Or.inr sz_t2))
  have Z11 : n0 ≤ T11.heap.size := Nat.le_trans Z5 Kc11.1
  have O11 := O5.keep Kc11 (ownAll2 (P := fun x => _ ≤ x) (Nat.le_trans hz ge_b1) (Nat.le_trans hz gt2))
  have hk := Nat.le_trans hk Kc11.1
  have N11 := Fr.app N10w N11q
  refine Goes.via (next := T11.setTop (mkF m 28 #[sr a1, .unset] [(.ref b1)])) (fun t k => st11.trans k) ?_
  refine Goes.via (next := T11.setTop (mkF m 30 #[sr a1, .unset] [(.ref la3), (.ref b1)])) (fun t k => ldcAgain X11 hx hZ hown (Wd hw 177 rfl) Lt3 (g := (mkF m 28 #[sr a1, .unset] [(.ref b1)])) rfl (hb hby d26_28) _ k) ?_
  obtain ⟨Lw13, X13w, N13w⟩ := ownPack X11 N11
  obtain ⟨cq14, kq14, q14a, q14b, q14c⟩ := isOf hZ rfl F11_156
  obtain ⟨_, _, ⟨T14, L14, k14, n14⟩, -, X14, ⟨Lc14, hQ14, l14, y14, z14⟩, st14⟩ := X13w.virtualBack hx (y := (⟨"java/lang/StringBuilder", "append", "(Ljava/lang/String;)Ljava/lang/StringBuilder;"⟩ : MethodName)) (z := (⟨"java/lang/StringBuilder", "append", "(Ljava/lang/String;)Ljava/lang/StringBuilder;"⟩ : MethodName)) hown (mvT hZ (Wd hw 178 rfl)) (mvT hZ (Wd hw 179 rfl)) (notFace_of_selects (args := #[]) (mvT hZ (Wd hw 181 rfl))) (mvT hZ (Wd hw 181 rfl)) (mvT hZ (Wd hw 180 rfl)) (by decide) (backOf (W := 0) (rm29_3 l Z a0 hw [] b1 la3 t2 lb3 kt2 lk3 (39 : Int32) x0 x1 (39 : Int32) w0 rE rL eL kL nZ T11.heap n0 Z11 F11_156 Fq11 Cq11 Nq11 Vc11 gt2 F11_157 F11_158 F11_159 F11_160 nv3 nu3 (Nat.ne_of_lt lt_b1_t2) ge_b1 nx3 (Ne.symm ny3) O11 hz St) hZ (Wd hw 182 rfl) (Wd hw 161 rfl) (by decide) (by decide)) q14a q14c (g := (mkF m 30 #[sr a1, .unset] [(.ref la3), (.ref b1)])) rfl (by rw [hml]; rfl) (Steps.refl _) (argsL := [(.ref la3)]) (rest := []) (lenOf pd_27 rfl) rfl (by show 2 * 0 + _ ≤ _; exact Nat.le_of_eq rfl) (hb hby d26_30) (fun _ _ => ⟨rfl, rfl, (by decide : 4 + 0 ≤ _), (by decide : 28 + 0 ≤ _)⟩)
  dsimp only [Pt.U, Pt.locs, Pt.cells, Pt.slots] at X14 l14 y14 z14 st14 hQ14
  subst l14 y14 z14
  obtain ⟨rfl, N14q, Kc14, Ec14, Fq14, Cq14, Nq14, Vc14⟩ := hQ14
  have F14_174 := F11_144.keep Kc14
  have F14_175 := F11_145.keep Kc14 (ownNin2 (Nat.ne_of_lt lt_a1_b1) (Nat.ne_of_lt lt_a1_t2))
  have F14_176 := F11_146.keep Kc14 (ownNin2 (Nat.ne_of_lt lt_a1_b1) (Nat.ne_of_lt lt_a1_t2))
  have F14_177 := F11_147.keep Kc14
  have F14_178 := F11_148.keep Kc14 (ownNin2 (Nat.ne_of_lt lt_l1_b1) (Nat.ne_of_lt lt_l1_t2))
  have F14_179 := F11_149.keep Kc14 (ownNin2 (Nat.ne_of_lt lt_t1_b1) (Nat.ne_of_lt lt_t1_t2))
  have F14_180 := F11_150.keep Kc14
  have F14_181 := F11_151.keep Kc14 (ownNin2 (Nat.ne_of_lt lt_r2_b1) (Nat.ne_of_lt lt_r2_t2))
  have F14_182 := F11_152.keep Kc14
  have F14_183 := F11_153.keep Kc14 (ownNin2 (Nat.ne_of_lt lt_ua_b1) (Nat.ne_of_lt lt_ua_t2))
  have F14_184 := F11_154.keep Kc14 (ownNin2 (Nat.ne_of_lt lt_ua_b1) (Nat.ne_of_lt lt_ua_t2))
  have F14_185 := F11_155.keep Kc14 (ownNin2 (Nat.ne_of_lt lt_tu_b1) (Nat.ne_of_lt lt_tu_t2))
  have F14_186 := F11_156.keep Kc14
  have F14_187 := F11_157.keep Kc14
  have F14_188 := F11_158.keep Kc14 (ownNin2 nx3 nu3)
  have F14_189 := F11_159.keep Kc14 (ownNin2 nx3 nu3)
  have F14_190 := F11_160.keep Kc14 (ownNin2 (Ne.symm ny3) nv3)
  have K14 : Keep h0 T14.heap [] := K11.trans Kc14 (ownAll2 (P := fun x => x ∈ _ ∨ _ ≤ x) (Or.inr sz_b1) (Or.inr sz_t2))
  have Z14 : n0 ≤ T14.heap.size := Nat.le_trans Z11 Kc14.1
  have O14 := O11.keep Kc14 (ownAll2 (P := fun x => _ ≤ x) (Nat.le_trans hz ge_b1) (Nat.le_trans hz gt2))
  have hk := Nat.le_trans hk Kc14.1
  have N14 := Fr.app N13w N14q
  refine Goes.via (next := T14.setTop (mkF m 33 #[sr a1, .unset] [(.ref b1)])) (fun t k => st14.trans k) ?_
  obtain ⟨Lw15, X15w, N15w⟩ := ownPack X14 N14
  obtain ⟨cq16, kq16, q16a, q16b, q16c⟩ := isOf hZ rfl F14_186
  obtain ⟨_, _, ⟨T16, L16, k16, n16⟩, -, X16, ⟨Lc16, hQ16, l16, y16, z16⟩, st16⟩ := X15w.virtualBack hx (y := (⟨"java/lang/StringBuilder", "toString", "()Ljava/lang/String;"⟩ : MethodName)) (z := (⟨"java/lang/StringBuilder", "toString", "()Ljava/lang/String;"⟩ : MethodName)) hown (mvT hZ (Wd hw 227 rfl)) (mvT hZ (Wd hw 228 rfl)) (notFace_of_selects (args := #[]) (mvT hZ (Wd hw 230 rfl))) (mvT hZ (Wd hw 230 rfl)) (mvT hZ (Wd hw 229 rfl)) (by decide) (backOf (W := 0) (rm37 l Z a0 hw [] b1 t2 kt2 (39 : Int32) x0 x1 (39 : Int32) w0 rE rL eL kL nZ T14.heap n0 Z14 F14_186 Fq14 Cq14 Nq14 Vc14 O14 hz St) hZ (Wd hw 231 rfl) (Wd hw 161 rfl) (by decide) (by decide)) q16a q16c (g := (mkF m 33 #[sr a1, .unset] [(.ref b1)])) rfl (by rw [hml]; rfl) (Steps.refl _) (argsL := []) (rest := []) (lenOf pd_29 rfl) rfl (by show 2 * 0 + _ ≤ _; exact Nat.le_of_eq rfl) (hb hby d26_33) (fun _ _ => ⟨rfl, rfl, (by decide : 4 + 2 ≤ _), (by decide : 28 + 8 ≤ _)⟩)
  dsimp only [Pt.U, Pt.locs, Pt.cells, Pt.slots] at X16 l16 y16 z16 st16 hQ16
  subst l16 y16 z16
  obtain ⟨r16, t16, kt16, rfl, N16q, gr16, zr16, Kc16, Ec16, Cc16, Vq16, Vc16⟩ := hQ16
  have lt_a1_r16 : a1 < r16 := Nat.lt_of_lt_of_le F14_174.lt zr16
  have lt_l1_r16 : l1 < r16 := Nat.lt_of_lt_of_le F14_177.lt zr16
  have lt_t1_r16 : t1 < r16 := Nat.lt_of_lt_of_le F14_179.lt zr16
  have lt_r2_r16 : r2 < r16 := Nat.lt_of_lt_of_le F14_180.lt zr16
  have lt_ua_r16 : ua < r16 := Nat.lt_of_lt_of_le F14_182.lt zr16
  have lt_tu_r16 : tu < r16 := Nat.lt_of_lt_of_le F14_185.lt zr16
  have lt_b1_r16 : b1 < r16 := Nat.lt_of_lt_of_le F14_186.lt zr16
  have lt_la3_r16 : la3 < r16 := Nat.lt_of_lt_of_le F14_187.lt zr16
  have lt_lb3_r16 : lb3 < r16 := Nat.lt_of_lt_of_le F14_190.lt zr16
  have lt_t2_r16 : t2 < r16 := Nat.lt_of_lt_of_le Vc14.lt zr16
  have sz_r16 : h0.size ≤ r16 := Nat.le_trans K14.1 zr16
  have F16_214 := F14_174.keep Kc16
  have F16_215 := F14_175.keep Kc16 List.not_mem_nil
  have F16_216 := F14_176.keep Kc16 List.not_mem_nil
  have F16_217 := F14_177.keep Kc16
  have F16_218 := F14_178.keep Kc16 List.not_mem_nil
  have F16_219 := F14_179.keep Kc16 List.not_mem_nil
  have F16_220 := F14_180.keep Kc16
  have F16_221 := F14_181.keep Kc16 List.not_mem_nil
  have F16_222 := F14_182.keep Kc16
  have F16_223 := F14_183.keep Kc16 List.not_mem_nil
  have F16_224 := F14_184.keep Kc16 List.not_mem_nil
  have F16_225 := F14_185.keep Kc16 List.not_mem_nil
  have F16_226 := F14_186.keep Kc16
  have F16_227 := F14_187.keep Kc16
  have F16_228 := F14_188.keep Kc16 List.not_mem_nil
  have F16_229 := F14_189.keep Kc16 List.not_mem_nil
  have F16_230 := F14_190.keep Kc16 List.not_mem_nil
  have F16_231 := Fq14.keep Kc16 List.not_mem_nil
  have F16_232 := Cq14.keep Kc16 List.not_mem_nil
  have F16_233 := Nq14.keep Kc16 List.not_mem_nil
  have F16_234 := Vc14.keep Kc16 List.not_mem_nil
  have K16 : Keep h0 T16.heap [] := K14.trans Kc16 (fun x hx => nomatch hx)
  have Z16 : n0 ≤ T16.heap.size := Nat.le_trans Z14 Kc16.1
  have O16 := O14.keep Kc16 (fun x hx => nomatch hx)
  have hk := Nat.le_trans hk Kc16.1
  have N16 := Fr.app N15w N16q
  refine Goes.via (next := T16.setTop (mkF m 36 #[sr a1, .unset] [(.ref r16)])) (fun t k => st16.trans k) ?_
  refine Goes.via (next := T16.setTop (mkF m 38 #[sr a1, sr r16] [(.ref a1)])) (fun t k => XS.astoreN X16.here hx rfl (hb hby d26_36) rfl rfl (l' := #[sr a1, sr r16]) rfl (XS.aloadN X16.here hx rfl (hb hby d26_37) rfl rfl k)) ?_
  obtain ⟨Lw17, X17w, N17w⟩ := ownPack X16 N16
  obtain ⟨cq18, kq18, q18a, q18b, q18c⟩ := isOf hZ rfl F16_214
  obtain ⟨_, _, ⟨T18, L18, k18, n18⟩, -, X18, ⟨Lc18, hQ18, l18, y18, z18⟩, st18⟩ := X17w.virtualBack hx (y := (⟨"com/example/attributes_to_claims/attributestoclaims/cli/CommandArguments$Option", "isFlag", "()Z"⟩ : MethodName)) (z := (⟨"com/example/attributes_to_claims/attributestoclaims/cli/CommandArguments$Option", "isFlag", "()Z"⟩ : MethodName)) hown (mvT hZ (Wd hw 272 rfl)) (mvT hZ (Wd hw 98 rfl)) (notFace_of_selects (args := #[]) (mvT hZ (Wd hw 100 rfl))) (mvT hZ (Wd hw 100 rfl)) (mvT hZ (Wd hw 99 rfl)) (by decide) (backOf (W := 0) (rm17 l Z a0 hw [] a1 l1 t1 k1 T16.heap n0 Z16 F16_216 F16_217 F16_218 F16_219) hZ (Wd hw 101 rfl) (Wd hw 37 rfl) (by decide) (by decide)) q18a q18c (g := (mkF m 38 #[sr a1, sr r16] [(.ref a1)])) rfl (by rw [hml]; rfl) (Steps.refl _) (argsL := []) (rest := []) (lenOf pd_23 rfl) rfl (by show 2 * 0 + _ ≤ _; exact Nat.le_of_eq rfl) (hb hby d26_38) (fun _ _ => ⟨rfl, rfl, (by decide : 6 + 0 ≤ _), (by decide : 36 + 0 ≤ _)⟩)
  dsimp only [Pt.U, Pt.locs, Pt.cells, Pt.slots] at X18 l18 y18 z18 st18 hQ18
  subst l18 y18 z18
  obtain ⟨rfl, N18q, er18⟩ := hQ18
  have e18 : T18.heap = T16.heap := er18
  have N18 := Fr.app N17w N18q
  refine Goes.via (next := T18.setTop (mkF m 41 #[sr a1, sr r16] [(.int (1 : Int32))])) (fun t k => st18.trans k) ?_
  refine Goes.via (next := T18.setTop (mkF m 76 #[sr a1, sr r16] [])) (fun t k => XS.ifYes X18.here hx rfl (pc0 := 41) (pc' := 76) rfl (hb hby d26_41) rfl ((if0 _ _).trans (feq (show ¬ ((1 : Int32) = (0 : Int32)) from (by decide))).2) (by decide) (by decide) k) ?_
  refine Goes.via (next := T18.setTop (mkF m 77 #[sr a1, sr r16] [(.ref r16)])) (fun t k => XS.aloadN X18.here hx rfl (hb hby d26_76) rfl rfl k) ?_
  obtain ⟨fs, hr, hrun, hended, hRE⟩ := X18.leaveW hS (by rw [e18]; exact hk) (v := some (.ref r16)) (fun h => by rw [Bd.returns] at h; cases h)
  refine ⟨_, _, ?_, hrun, hended, _, _, rfl, ?_, hRE.1, hRE.2.1, hRE.2.2.1, hRE.2.2.2.mono (by decide) (by decide)⟩
  · exact retOut X18 hx (t := (.object "java/lang/String")) Bd.returns rfl (Or.inr (Or.inr (Or.inr (Or.inr ⟨rfl, rfl, rfl⟩)))) (hb hby d26_77) hr
  · show Q26_p Z x0 x1 h0 n0 _ T18.heap _ _
    rw [e18]
    exact ⟨r16, t16, _, rfl, N18, gr16, sz_r16, K16, Ec16, Cc16, Vq16, Vc16⟩
theorem ef_26_n (m : MethodId) (x0 : Addr) : entryFrame m #[(.ref x0)] 2 = mkF m 0 #[.val (.ref x0), .unset] [] := by first | (simp [entryFrame, mkF, argsToLocals, Value.category]; done) | rfl
def Q26_n (Z : State) (x0 x1 : Int32) (h0 : Heap) (n0 : Nat) (v : Option Value) (h : Heap) (vm : Vm) (L : List Loc) : Prop := ∃ (r t : Addr) (k : ClassId), v = some (.ref r) ∧ Fr n0 L ∧ n0 ≤ r ∧ h0.size ≤ r ∧ Keep h0 h [] ∧ Exa Z h r "java/lang/String" ∧ Fld Z h r "java/lang/String" "coder" "B" (.int (0 : Int32)) ∧ Fld Z h r "java/lang/String" "value" "[B" (.ref t) ∧ Arv Z h t k .byte (4 : Int32) [(.int (39 : Int32)), (.int x0), (.int x1), (.int (39 : Int32))] (.int (0 : Int32))
set_option maxRecDepth 65536 in
set_option maxHeartbeats 40000000 in
theorem rm26_n (l : Launch) (Z : State) (a0 : Array Value) (hw : ∀ d ∈ tables_1, d.before a0 Z = true) (ws : List Jvm.Cond) (a1 : Addr) (l1 t1 : Addr) (k1 : ClassId) (r2 : Addr) (q1 : Addr) (kq : ClassId) (ua ub uc : Addr) (tu : Addr) (ku : ClassId) (x0 x1 : Int32) (w0 : Int32) (rE rL eL : Addr) (kL : ClassId) (nZ : Nat) (h0 : Heap) (n0 : Nat) (Z0 : n0 ≤ h0.size) (Eo : Exa Z h0 a1 "com/example/attributes_to_claims/attributestoclaims/cli/CommandArguments$Option") (Fo : Fld Z h0 a1 "com/example/attributes_to_claims/attributestoclaims/cli/CommandArguments$Option" "names" "Ljava/util/List;" (.ref r2)) (Fl : Fld Z h0 a1 "com/example/attributes_to_claims/attributestoclaims/cli/CommandArguments$Option" "label" "Ljava/lang/String;" (.ref l1)) (El : Exa Z h0 l1 "java/lang/String") (Fe : Fld Z h0 l1 "java/lang/String" "value" "[B" (.ref t1)) (Ve : Arv Z h0 t1 k1 .byte (0 : Int32) [] (.int (0 : Int32))) (Ep : Exa Z h0 r2 "java/util/ImmutableCollections$ListN") (Fp : Fld Z h0 r2 "java/util/ImmutableCollections$ListN" "elements" "[Ljava/lang/Object;" (.ref q1)) (Vp : Arv Z h0 q1 kq (.object "java/lang/Object") (3 : Int32) [.ref ua, .ref ub, .ref uc] .null) (Eu : Exa Z h0 ua "java/lang/String") (Cu : Fld Z h0 ua "java/lang/String" "coder" "B" (.int (0 : Int32))) (Fu : Fld Z h0 ua "java/lang/String" "value" "[B" (.ref tu)) (Vu : Arv Z h0 tu ku .byte (2 : Int32) [(.int x0), (.int x1)] (.int (0 : Int32))) (O0 : Old Z nZ h0) (hz : nZ ≤ n0) (St : own_St Z w0 rE rL eL kL) (hn0 : n0 = h0.size) (hcQ : Jvm.Lit.constHeld Z "com/example/attributes_to_claims/attributestoclaims/cli/CommandArguments$Option" 44) (hcw : Jvm.Lit.compactW.before a0 Z = true) :
    MFS l (⟨"com/example/attributes_to_claims/attributestoclaims/cli/CommandArguments$Option", "quoted", "()Ljava/lang/String;"⟩ : MethodName) prog_62_method_5_code 2 (some (.object "java/lang/String")) ws ({ frames := 6, cells := 6, slots := 36, locals := 91 } : Room) #[(.ref a1)] Z h0 (fun vm => IB Z vm ["x", ""]) (Q26_n Z x0 x1 h0 n0) := by
  refine MetFree.of_bodySF (plainFor_of_name pn_12) hisR ?_
  intro p e s m args below meth c s₁ Bd hml0 hP hK
  obtain ⟨rfl, hZ, hh, hI⟩ := hP
  have hx := Bd.exec
  have hby := Bd.bytes
  have hml : c.maxLocals = 2 := hml0
  have hown : s.vm.findClass "com/example/attributes_to_claims/attributestoclaims/cli/CommandArguments$Option" = some m.cls := findClass_of_methodNamed Bd.named
  have hnm := (name_of_methodNamed Bd.named Bd.method).1
  have X0 : Stand p l e ({ frames := 6, cells := 6, slots := 36, locals := 91 } : Room) (s.setVm s.vm) m #[(.ref a1)] below meth c s₁ [] 0 0 := Stand.of_body Bd
  have e0 : s₁.heap = h0 := by rw [← hh, Bd.state]; rfl
  have N0 := Fr.nil n0
  have hS : s.Since s.vm 0 := (State.WarmedH.refl s).since 0
  have hk : 0 ≤ h0.size := Nat.zero_le _
  refine Goes.via (next := s₁.setTop (mkF m 0 #[.val (.ref a1), .unset] [])) (fun t k => castTop (ef_26_n m a1) k) ?_
  obtain ⟨T1, h1, X1, e1, E1, A1, D1, -, st1⟩ := newO X0 hx hZ hown (Wd hw 159 rfl) (Wd hw 160 rfl) (Wd hw 161 rfl) e0 (g := (mkF m 0 #[sr a1, .unset] [])) rfl (hb hby d26_0) (by decide) (by decide)
  obtain ⟨b1, g1⟩ : ∃ z, z = h0.size := ⟨_, rfl⟩
  rw [← g1] at A1 D1 st1
  have lt_a1_b1 : a1 < b1 := Nat.lt_of_lt_of_le Eo.lt (Nat.le_of_eq g1.symm)
  have lt_l1_b1 : l1 < b1 := Nat.lt_of_lt_of_le El.lt (Nat.le_of_eq g1.symm)
  have lt_t1_b1 : t1 < b1 := Nat.lt_of_lt_of_le Ve.lt (Nat.le_of_eq g1.symm)
  have lt_r2_b1 : r2 < b1 := Nat.lt_of_lt_of_le Ep.lt (Nat.le_of_eq g1.symm)
  have lt_q1_b1 : q1 < b1 := Nat.lt_of_lt_of_le Vp.lt (Nat.le_of_eq g1.symm)
  have lt_ua_b1 : ua < b1 := Nat.lt_of_lt_of_le Eu.lt (Nat.le_of_eq g1.symm)
  have lt_tu_b1 : tu < b1 := Nat.lt_of_lt_of_le Vu.lt (Nat.le_of_eq g1.symm)
  have ge_b1 : n0 ≤ b1 := Nat.le_trans Z0 (Nat.le_of_eq g1.symm)
  have sz_b1 : h0.size ≤ b1 := Nat.le_trans (Keep.refl h0 []).1 (Nat.le_of_eq g1.symm)
  have F1_12 := Eo.ext E1
  have F1_13 := Fo.ext E1
  have F1_14 := Fl.ext E1
  have F1_15 := El.ext E1
  have F1_16 := Fe.ext E1
  have F1_17 := Ve.ext E1
  have F1_18 := Ep.ext E1
  have F1_19 := Fp.ext E1
  have F1_20 := Vp.ext E1
  have F1_21 := Eu.ext E1
  have F1_22 := Cu.ext E1
  have F1_23 := Fu.ext E1
  have F1_24 := Vu.ext E1
  have K1 : Keep h0 h1 [] := (Keep.refl h0 []).ext E1
  have Z1 : n0 ≤ h1.size := Nat.le_trans Z0 E1.1
  have O1 := O0.ext E1
  have hk := Nat.le_trans hk E1.1
  have F1_value : Fld Z h1 b1 "java/lang/AbstractStringBuilder" "value" "[B" .null := D1 (Or.inl (Wd hw 174 rfl)) (ty := (.array .byte)) (by decide)
  have F1_coder : Fld Z h1 b1 "java/lang/AbstractStringBuilder" "coder" "B" (.int (0 : Int32)) := D1 (Or.inl (Wd hw 176 rfl)) (ty := .byte) (by decide)
  have F1_count : Fld Z h1 b1 "java/lang/AbstractStringBuilder" "count" "I" (.int (0 : Int32)) := D1 (Or.inl (Wd hw 199 rfl)) (ty := .int) (by decide)
  refine Goes.via (next := T1.setTop (mkF m 3 #[sr a1, .unset] [(.ref b1)])) st1 ?_
  refine Goes.via (next := T1.setTop (mkF m 4 #[sr a1, .unset] [(.ref b1), (.ref b1)])) (fun t k => XS.dup X1.here hx rfl (hb hby d26_3) rfl rfl k) ?_
  obtain ⟨_, _, ⟨T2, L2, k2, n2⟩, -, X2, ⟨Lc2, hQ2, l2, y2, z2⟩, st2⟩ := X1.specialBack hx (y := (⟨"java/lang/StringBuilder", "<init>", "()V"⟩ : MethodName)) rfl hown (mvT hZ (Wd hw 162 rfl)) (mvT hZ (Wd hw 163 rfl)) (mvT hZ (Wd hw 164 rfl)) (by decide) (backOf (W := 1) (rm27 l Z a0 hw [] b1 w0 rE rL eL kL nZ h1 n0 Z1 A1 F1_value F1_coder F1_count ge_b1 O1 hz St) hZ (Wd hw 164 rfl) (Wd hw 161 rfl) (by decide) (by decide)) (g := (mkF m 4 #[sr a1, .unset] [(.ref b1), (.ref b1)])) rfl (by rw [hml]; rfl) (Steps.refl _) (a := b1) (argsL := []) (rest := [(.ref b1)]) (lenOf pd_5 rfl) rfl (by show 2 * 0 + _ ≤ _; exact Nat.le_of_eq rfl) (hb hby d26_4) (fun _ _ => ⟨rfl, e1, (by decide : 1 + 1 ≤ _), (by decide : 4 + 16 ≤ _)⟩)
  dsimp only [Pt.U, Pt.locs, Pt.cells, Pt.slots] at X2 l2 y2 z2 st2 hQ2
  subst l2 y2 z2
  obtain ⟨rfl, N2q, Kc2, Ec2, Cc2, Nc2, t2, kt2, gt2, zt2, Vq2, Vc2⟩ := hQ2
  have lt_a1_t2 : a1 < t2 := Nat.lt_of_lt_of_le F1_12.lt zt2
  have lt_l1_t2 : l1 < t2 := Nat.lt_of_lt_of_le F1_15.lt zt2
  have lt_t1_t2 : t1 < t2 := Nat.lt_of_lt_of_le F1_17.lt zt2
  have lt_r2_t2 : r2 < t2 := Nat.lt_of_lt_of_le F1_18.lt zt2
  have lt_q1_t2 : q1 < t2 := Nat.lt_of_lt_of_le F1_20.lt zt2
  have lt_ua_t2 : ua < t2 := Nat.lt_of_lt_of_le F1_21.lt zt2
  have lt_tu_t2 : tu < t2 := Nat.lt_of_lt_of_le F1_24.lt zt2
  have lt_b1_t2 : b1 < t2 := Nat.lt_of_lt_of_le A1.lt zt2
  have sz_t2 : h0.size ≤ t2 := Nat.le_trans K1.1 zt2
  have F2_47 := F1_12.keep Kc2
  have F2_48 := F1_13.keep Kc2 (fun q => (Nat.ne_of_lt lt_a1_b1) (List.mem_singleton.mp q))
  have F2_49 := F1_14.keep Kc2 (fun q => (Nat.ne_of_lt lt_a1_b1) (List.mem_singleton.mp q))
  have F2_50 := F1_15.keep Kc2
  have F2_51 := F1_16.keep Kc2 (fun q => (Nat.ne_of_lt lt_l1_b1) (List.mem_singleton.mp q))
  have F2_52 := F1_17.keep Kc2 (fun q => (Nat.ne_of_lt lt_t1_b1) (List.mem_singleton.mp q))
  have F2_53 := F1_18.keep Kc2
  have F2_54 := F1_19.keep Kc2 (fun q => (Nat.ne_of_lt lt_r2_b1) (List.mem_singleton.mp q))
  have F2_55 := F1_20.keep Kc2 (fun q => (Nat.ne_of_lt lt_q1_b1) (List.mem_singleton.mp q))
  have F2_56 := F1_21.keep Kc2
  have F2_57 := F1_22.keep Kc2 (fun q => (Nat.ne_of_lt lt_ua_b1) (List.mem_singleton.mp q))
  have F2_58 := F1_23.keep Kc2 (fun q => (Nat.ne_of_lt lt_ua_b1) (List.mem_singleton.mp q))
  have F2_59 := F1_24.keep Kc2 (fun q => (Nat.ne_of_lt lt_tu_b1) (List.mem_singleton.mp q))
  have F2_60 := A1.keep Kc2
  have K2 : Keep h0 T2.heap [] := K1.trans Kc2 (fun x hx => by cases List.mem_singleton.mp hx; exact Or.inr sz_b1)
  have Z2 : n0 ≤ T2.heap.size := Nat.le_trans Z1 Kc2.1
  have O2 := O1.keep Kc2 (fun x hx => by cases List.mem_singleton.mp hx; exact (Nat.le_trans hz ge_b1))
  have hk := Nat.le_trans hk Kc2.1
  have N2 := Fr.app N0 N2q
  refine Goes.via (next := T2.setTop (mkF m 7 #[sr a1, .unset] [(.ref b1)])) (fun t k => st2.trans k) ?_
  obtain ⟨la3, T3, h3, kk3, lb3, lk3, X3, e3, E3, S3, hk3, Zw3, ow3, Ex3, Fc3, Fv3, Va3, lta3, ltb3, I3, Lt3, st3⟩ := ldcSVL X2 hx hZ hown (Wd hw 177 rfl) (own_wS hw) rfl hS hk (by rw [hh, ← hn0]; exact N2) (fun b cl q => by rw [hh]; exact O0.2.2 b cl q) hI (by decide) hcQ hcw (vs := [(.int (39 : Int32))]) (z := (1 : Int32)) ⟨by decide, by decide⟩ (by decide) (by decide) (g := (mkF m 7 #[sr a1, .unset] [(.ref b1)])) rfl (hb hby d26_7) (n := 4) (by decide) (by decide) (by decide) (by decide)
  have F3_68 := F2_47.ext E3
  have F3_69 := F2_48.ext E3
  have F3_70 := F2_49.ext E3
  have F3_71 := F2_50.ext E3
  have F3_72 := F2_51.ext E3
  have F3_73 := F2_52.ext E3
  have F3_74 := F2_53.ext E3
  have F3_75 := F2_54.ext E3
  have F3_76 := F2_55.ext E3
  have F3_77 := F2_56.ext E3
  have F3_78 := F2_57.ext E3
  have F3_79 := F2_58.ext E3
  have F3_80 := F2_59.ext E3
  have F3_81 := F2_60.ext E3
  have F3_82 := Cc2.ext E3
  have F3_83 := Nc2.ext E3
  have F3_84 := Vq2.ext E3
  have F3_85 := Vc2.ext E3
  have K3 : Keep h0 h3 [] := K2.ext E3
  have Z3 : n0 ≤ h3.size := Nat.le_trans Z2 E3.1
  have O3 := O2.ext E3
  have hZ := Zw3
  have hown := ow3
  have hS := S3
  have hk := hk3
  have hI := I3
  have nx3 : la3 ≠ b1 := Exa.ne Ex3 F3_81 (by decide)
  have ny3 : b1 ≠ lb3 := Exa.neArv F3_81 Va3 (Wd hw 160 rfl)
  have nu3 : la3 ≠ t2 := Exa.neArv Ex3 F3_85 (Wd hw 5 rfl)
  have nv3 : lb3 ≠ t2 := ownNeLen Va3 F3_85 (by decide)
  refine Goes.via (next := T3.setTop (mkF m 9 #[sr a1, .unset] [(.ref la3), (.ref b1)])) st3 ?_
  obtain ⟨Lw4, X4w, N4w⟩ := ownPack X3 N2
  obtain ⟨cq5, kq5, q5a, q5b, q5c⟩ := isOf hZ e3 F3_81
  obtain ⟨_, _, ⟨T5, L5, k5, n5⟩, -, X5, ⟨Lc5, hQ5, l5, y5, z5⟩, st5⟩ := X4w.virtualBack hx (y := (⟨"java/lang/StringBuilder", "append", "(Ljava/lang/String;)Ljava/lang/StringBuilder;"⟩ : MethodName)) (z := (⟨"java/lang/StringBuilder", "append", "(Ljava/lang/String;)Ljava/lang/StringBuilder;"⟩ : MethodName)) hown (mvT hZ (Wd hw 178 rfl)) (mvT hZ (Wd hw 179 rfl)) (notFace_of_selects (args := #[]) (mvT hZ (Wd hw 181 rfl))) (mvT hZ (Wd hw 181 rfl)) (mvT hZ (Wd hw 180 rfl)) (by decide) (backOf (W := 0) (rm29_0 l Z a0 hw [] b1 la3 t2 lb3 kt2 lk3 (39 : Int32) w0 rE rL eL kL nZ h3 n0 Z3 F3_81 F3_84 F3_82 F3_83 F3_85 gt2 Ex3 Fc3 Fv3 Va3 nv3 nu3 (Nat.ne_of_lt lt_b1_t2) ge_b1 nx3 (Ne.symm ny3) O3 hz St) hZ (Wd hw 182 rfl) (Wd hw 161 rfl) (by decide) (by decide)) q5a q5c (g := (mkF m 9 #[sr a1, .unset] [(.ref la3), (.ref b1)])) rfl (by rw [hml]; rfl) (Steps.refl _) (argsL := [(.ref la3)]) (rest := []) (lenOf pd_27 rfl) rfl (by show 2 * 0 + _ ≤ _; exact Nat.le_of_eq rfl) (hb hby d26_9) (fun _ _ => ⟨rfl, e3, (by decide : 4 + 0 ≤ _), (by decide : 28 + 0 ≤ _)⟩)
  dsimp only [Pt.U, Pt.locs, Pt.cells, Pt.slots] at X5 l5 y5 z5 st5 hQ5
  subst l5 y5 z5
  obtain ⟨rfl, N5q, Kc5, Ec5, Fq5, Cq5, Nq5, Vc5⟩ := hQ5
  have F5_105 := F3_68.keep Kc5
  have F5_106 := F3_69.keep Kc5 (ownNin2 (Nat.ne_of_lt lt_a1_b1) (Nat.ne_of_lt lt_a1_t2))
  have F5_107 := F3_70.keep Kc5 (ownNin2 (Nat.ne_of_lt lt_a1_b1) (Nat.ne_of_lt lt_a1_t2))
  have F5_108 := F3_71.keep Kc5
  have F5_109 := F3_72.keep Kc5 (ownNin2 (Nat.ne_of_lt lt_l1_b1) (Nat.ne_of_lt lt_l1_t2))
  have F5_110 := F3_73.keep Kc5 (ownNin2 (Nat.ne_of_lt lt_t1_b1) (Nat.ne_of_lt lt_t1_t2))
  have F5_111 := F3_74.keep Kc5
  have F5_112 := F3_75.keep Kc5 (ownNin2 (Nat.ne_of_lt lt_r2_b1) (Nat.ne_of_lt lt_r2_t2))
  have F5_113 := F3_76.keep Kc5 (ownNin2 (Nat.ne_of_lt lt_q1_b1) (Nat.ne_of_lt lt_q1_t2))
  have F5_114 := F3_77.keep Kc5
  have F5_115 := F3_78.keep Kc5 (ownNin2 (Nat.ne_of_lt lt_ua_b1) (Nat.ne_of_lt lt_ua_t2))
  have F5_116 := F3_79.keep Kc5 (ownNin2 (Nat.ne_of_lt lt_ua_b1) (Nat.ne_of_lt lt_ua_t2))
  have F5_117 := F3_80.keep Kc5 (ownNin2 (Nat.ne_of_lt lt_tu_b1) (Nat.ne_of_lt lt_tu_t2))
  have F5_118 := F3_81.keep Kc5
  have F5_119 := Ex3.keep Kc5
  have F5_120 := Fc3.keep Kc5 (ownNin2 nx3 nu3)
  have F5_121 := Fv3.keep Kc5 (ownNin2 nx3 nu3)
  have F5_122 := Va3.keep Kc5 (ownNin2 (Ne.symm ny3) nv3)
  have K5 : Keep h0 T5.heap [] := K3.trans Kc5 (ownAll2 (P := fun x => x ∈ _ ∨ _ ≤ x) (Or.inr sz_b1) (Or.inr sz_t2))
  have Z5 : n0 ≤ T5.heap.size := Nat.le_trans Z3 Kc5.1
  have O5 := O3.keep Kc5 (ownAll2 (P := fun x => _ ≤ x) (Nat.le_trans hz ge_b1) (Nat.le_trans hz gt2))
  have hk := Nat.le_trans hk Kc5.1
  have N5 := Fr.app N4w N5q
  refine Goes.via (next := T5.setTop (mkF m 12 #[sr a1, .unset] [(.ref b1)])) (fun t k => st5.trans k) ?_
  refine Goes.via (next := T5.setTop (mkF m 13 #[sr a1, .unset] [(.ref a1), (.ref b1)])) (fun t k => XS.aloadN X5.here hx rfl (hb hby d26_12) rfl rfl k) ?_
  obtain ⟨T6, X6, e6, st6⟩ := getF X5 hx hZ hown (host := "") (Or.inl (Wd hw 59 rfl)) Via.refl rfl F5_106 (g := (mkF m 13 #[sr a1, .unset] [(.ref a1), (.ref b1)])) rfl rfl (hb hby d26_13)
  refine Goes.via (next := T6.setTop (mkF m 16 #[sr a1, .unset] [(.ref r2), (.ref b1)])) st6 ?_
  refine Goes.via (next := T6.setTop (mkF m 17 #[sr a1, .unset] [(.int (0 : Int32)), (.ref r2), (.ref b1)])) (fun t k => XS.iconst X6.here hx rfl (hb hby d26_16) k) ?_
  obtain ⟨Lw7, X7w, N7w⟩ := ownPack X6 N5
  obtain ⟨cq8, kq8, q8a, q8b, q8c⟩ := isOf hZ e6 F5_111
  obtain ⟨_, _, ⟨T8, L8, k8, n8⟩, -, X8, ⟨Lc8, hQ8, l8, y8, z8⟩, st8⟩ := X7w.interfaceBack hx (xi := (⟨"java/util/List", "get", "(I)Ljava/lang/Object;"⟩ : MethodName)) (y := (⟨"java/util/ImmutableCollections$ListN", "get", "(I)Ljava/lang/Object;"⟩ : MethodName)) hown (mvT hZ (Wd hw 225 rfl)) (mvT hZ (Wd hw 142 rfl)) (mvT hZ (Wd hw 143 rfl)) (mvT hZ (Wd hw 144 rfl)) (mvT hZ (Wd hw 145 rfl)) (mvT hZ (Wd hw 146 rfl)) (mvT hZ (Wd hw 147 rfl)) (mvT hZ (Wd hw 77 rfl)) (by decide) (backOf (W := 1) (rm24_0 l Z a0 hw [] r2 q1 kq ua ub uc T5.heap n0 Z5 F5_112 F5_113) hZ (Wd hw 148 rfl) (Wd hw 78 rfl) (by decide) (by decide)) q8a q8b q8c (g := (mkF m 17 #[sr a1, .unset] [(.int (0 : Int32)), (.ref r2), (.ref b1)])) rfl (by rw [hml]; rfl) (Steps.refl _) (argsL := [(.int (0 : Int32))]) (rest := [(.ref b1)]) (lenOf pd_28 rfl) rfl (by show 2 * 0 + _ ≤ _; exact Nat.le_of_eq rfl) (hb hby d26_17) (fun _ _ => ⟨rfl, e6, (by decide : 4 + 0 ≤ _), (by decide : 28 + 0 ≤ _)⟩)
  dsimp only [Pt.U, Pt.locs, Pt.cells, Pt.slots] at X8 l8 y8 z8 st8 hQ8
  subst l8 y8 z8
  obtain ⟨rfl, N8q, er8⟩ := hQ8
  have e8 : T8.heap = T5.heap := er8
  have N8 := Fr.app N7w N8q
  refine Goes.via (next := T8.setTop (mkF m 22 #[sr a1, .unset] [(.ref ua), (.ref b1)])) (fun t k => st8.trans k) ?_
  obtain ⟨T9, X9, e9, st9⟩ := castY X8 hx hZ hown (Wd hw 226 rfl) e8 (Ins.self F5_114) (g := (mkF m 22 #[sr a1, .unset] [(.ref ua), (.ref b1)])) rfl rfl (hb hby d26_22)
  refine Goes.via (next := T9.setTop (mkF m 25 #[sr a1, .unset] [(.ref ua), (.ref b1)])) st9 ?_
  obtain ⟨Lw10, X10w, N10w⟩ := ownPack X9 N8
  obtain ⟨cq11, kq11, q11a, q11b, q11c⟩ := isOf hZ e9 F5_118
  obtain ⟨_, _, ⟨T11, L11, k11, n11⟩, -, X11, ⟨Lc11, hQ11, l11, y11, z11⟩, st11⟩ := X10w.virtualBack hx (y := (⟨"java/lang/StringBuilder", "append", "(Ljava/lang/String;)Ljava/lang/StringBuilder;"⟩ : MethodName)) (z := (⟨"java/lang/StringBuilder", "append", "(Ljava/lang/String;)Ljava/lang/StringBuilder;"⟩ : MethodName)) hown (mvT hZ (Wd hw 178 rfl)) (mvT hZ (Wd hw 179 rfl)) (notFace_of_selects (args := #[]) (mvT hZ (Wd hw 181 rfl))) (mvT hZ (Wd hw 181 rfl)) (mvT hZ (Wd hw 180 rfl)) (by decide) (backOf (W := 0) (rm29_1 l Z a0 hw [] b1 ua t2 tu kt2 ku (39 : Int32) x0 x1 w0 rE rL eL kL nZ T5.heap n0 Z5 F5_118 Fq5 Cq5 Nq5 Vc5 gt2 F5_114 F5_115 F5_116 F5_117 (Nat.ne_of_lt lt_tu_t2) (Nat.ne_of_lt lt_ua_t2) (Nat.ne_of_lt lt_b1_t2) ge_b1 (Nat.ne_of_lt lt_ua_b1) (Nat.ne_of_lt lt_tu_b1) O5 hz St) hZ (Wd hw 182 rfl) (Wd hw 161 rfl) (by decide) (by decide)) q11a q11c (g := (mkF m 25 #[sr a1, .unset] [(.ref ua), (.ref b1)])) rfl (by rw [hml]; rfl) (Steps.refl _) (argsL := [(.ref ua)]) (rest := []) (lenOf pd_27 rfl) rfl (by show 2 * 0 + _ ≤ _; exact Nat.le_of_eq rfl) (hb hby d26_25) (fun _ _ => ⟨rfl, e9, (by decide : 4 + 0 ≤ _), (by decide : 28 + 0 ≤ _)⟩)
  dsimp only [Pt.U, Pt.locs, Pt.cells, Pt.slots] at X11 l11 y11 z11 st11 hQ11
  subst l11 y11 z11
  obtain ⟨rfl, N11q, Kc11, Ec11, Fq11, Cq11, Nq11, Vc11⟩ := hQ11
  have F11_150 := F5_105.keep Kc11
  have F11_151 := F5_106.keep Kc11 (ownNin2 (Nat.ne_of_lt lt_a1_b1) (Nat.ne_of_lt lt_a1_t2))
  have F11_152 := F5_107.keep Kc11 (ownNin2 (Nat.ne_of_lt lt_a1_b1) (Nat.ne_of_lt lt_a1_t2))
  have F11_153 := F5_108.keep Kc11
  have F11_154 := F5_109.keep Kc11 (ownNin2 (Nat.ne_of_lt lt_l1_b1) (Nat.ne_of_lt lt_l1_t2))
  have F11_155 := F5_110.keep Kc11 (ownNin2 (Nat.ne_of_lt lt_t1_b1) (Nat.ne_of_lt lt_t1_t2))
  have F11_156 := F5_111.keep Kc11
  have F11_157 := F5_112.keep Kc11 (ownNin2 (Nat.ne_of_lt lt_r2_b1) (Nat.ne_of_lt lt_r2_t2))
  have F11_158 := F5_113.keep Kc11 (ownNin2 (Nat.ne_of_lt lt_q1_b1) (Nat.ne_of_lt lt_q1_t2))
  have F11_159 := F5_114.keep Kc11
  have F11_160 := F5_115.keep Kc11 (ownNin2 (Nat.ne_of_lt lt_ua_b1) (Nat.ne_of_lt lt_ua_t2))
  have F11_161 := F5_116.keep Kc11 (ownNin2 (Nat.ne_of_lt lt_ua_b1) (Nat.ne_of_lt lt_ua_t2))
  have F11_162 := F5_117.keep Kc11 (ownNin2 (Nat.ne_of_lt lt_tu_b1) (Nat.ne_of_lt lt_tu_t2))
  have F11_163 := F5_118.keep Kc11
  have F11_164 := F5_119.keep Kc11
  have F11_165 := F5_120.keep Kc11 (ownNin2 nx3 nu3)
  have F11_166 := F5_121.keep Kc11 (ownNin2 nx3 nu3)
  have F11_167 := F5_122.keep Kc11 (ownNin2 (Ne.symm ny3) nv3)
  have K11 : Keep h0 T11.heap [] := K5.trans Kc11 (ownAll2 (P := fun x => x ∈ _ ∨ _ ≤ x) (Or.inr sz_b1) (Or.inr sz_t2))
  have Z11 : n0 ≤ T11.heap.size := Nat.le_trans Z5 Kc11.1
  have O11 := O5.keep Kc11 (ownAll2 (P := fun x => _ ≤ x) (Nat.le_trans hz ge_b1) (Nat.le_trans hz gt2))
  have hk := Nat.le_trans hk Kc11.1
  have N11 := Fr.app N10w N11q
  refine Goes.via (next := T11.setTop (mkF m 28 #[sr a1, .unset] [(.ref b1)])) (fun t k => st11.trans k) ?_
  refine Goes.via (next := T11.setTop (mkF m 30 #[sr a1, .unset] [(.ref la3), (.ref b1)])) (fun t k => ldcAgain X11 hx hZ hown (Wd hw 177 rfl) Lt3 (g := (mkF m 28 #[sr a1, .unset] [(.ref b1)])) rfl (hb hby d26_28) _ k) ?_
  obtain ⟨Lw13, X13w, N13w⟩ := ownPack X11 N11
  obtain ⟨cq14, kq14, q14a, q14b, q14c⟩ := isOf hZ rfl F11_163
  obtain ⟨_, _, ⟨T14, L14, k14, n14⟩, -, X14, ⟨Lc14, hQ14, l14, y14, z14⟩, st14⟩ := X13w.virtualBack hx (y := (⟨"java/lang/StringBuilder", "append", "(Ljava/lang/String;)Ljava/lang/StringBuilder;"⟩ : MethodName)) (z := (⟨"java/lang/StringBuilder", "append", "(Ljava/lang/String;)Ljava/lang/StringBuilder;"⟩ : MethodName)) hown (mvT hZ (Wd hw 178 rfl)) (mvT hZ (Wd hw 179 rfl)) (notFace_of_selects (args := #[]) (mvT hZ (Wd hw 181 rfl))) (mvT hZ (Wd hw 181 rfl)) (mvT hZ (Wd hw 180 rfl)) (by decide) (backOf (W := 0) (rm29_3 l Z a0 hw [] b1 la3 t2 lb3 kt2 lk3 (39 : Int32) x0 x1 (39 : Int32) w0 rE rL eL kL nZ T11.heap n0 Z11 F11_163 Fq11 Cq11 Nq11 Vc11 gt2 F11_164 F11_165 F11_166 F11_167 nv3 nu3 (Nat.ne_of_lt lt_b1_t2) ge_b1 nx3 (Ne.symm ny3) O11 hz St) hZ (Wd hw 182 rfl) (Wd hw 161 rfl) (by decide) (by decide)) q14a q14c (g := (mkF m 30 #[sr a1, .unset] [(.ref la3), (.ref b1)])) rfl (by rw [hml]; rfl) (Steps.refl _) (argsL := [(.ref la3)]) (rest := []) (lenOf pd_27 rfl) rfl (by show 2 * 0 + _ ≤ _; exact Nat.le_of_eq rfl) (hb hby d26_30) (fun _ _ => ⟨rfl, rfl, (by decide : 4 + 0 ≤ _), (by decide : 28 + 0 ≤ _)⟩)
  dsimp only [Pt.U, Pt.locs, Pt.cells, Pt.slots] at X14 l14 y14 z14 st14 hQ14
  subst l14 y14 z14
  obtain ⟨rfl, N14q, Kc14, Ec14, Fq14, Cq14, Nq14, Vc14⟩ := hQ14
  have F14_181 := F11_150.keep Kc14
  have F14_182 := F11_151.keep Kc14 (ownNin2 (Nat.ne_of_lt lt_a1_b1) (Nat.ne_of_lt lt_a1_t2))
  have F14_183 := F11_152.keep Kc14 (ownNin2 (Nat.ne_of_lt lt_a1_b1) (Nat.ne_of_lt lt_a1_t2))
  have F14_184 := F11_153.keep Kc14
  have F14_185 := F11_154.keep Kc14 (ownNin2 (Nat.ne_of_lt lt_l1_b1) (Nat.ne_of_lt lt_l1_t2))
  have F14_186 := F11_155.keep Kc14 (ownNin2 (Nat.ne_of_lt lt_t1_b1) (Nat.ne_of_lt lt_t1_t2))
  have F14_187 := F11_156.keep Kc14
  have F14_188 := F11_157.keep Kc14 (ownNin2 (Nat.ne_of_lt lt_r2_b1) (Nat.ne_of_lt lt_r2_t2))
  have F14_189 := F11_158.keep Kc14 (ownNin2 (Nat.ne_of_lt lt_q1_b1) (Nat.ne_of_lt lt_q1_t2))
  have F14_190 := F11_159.keep Kc14
  have F14_191 := F11_160.keep Kc14 (ownNin2 (Nat.ne_of_lt lt_ua_b1) (Nat.ne_of_lt lt_ua_t2))
  have F14_192 := F11_161.keep Kc14 (ownNin2 (Nat.ne_of_lt lt_ua_b1) (Nat.ne_of_lt lt_ua_t2))
  have F14_193 := F11_162.keep Kc14 (ownNin2 (Nat.ne_of_lt lt_tu_b1) (Nat.ne_of_lt lt_tu_t2))
  have F14_194 := F11_163.keep Kc14
  have F14_195 := F11_164.keep Kc14
  have F14_196 := F11_165.keep Kc14 (ownNin2 nx3 nu3)
  have F14_197 := F11_166.keep Kc14 (ownNin2 nx3 nu3)
  have F14_198 := F11_167.keep Kc14 (ownNin2 (Ne.symm ny3) nv3)
  have K14 : Keep h0 T14.heap [] := K11.trans Kc14 (ownAll2 (P := fun x => x ∈ _ ∨ _ ≤ x) (Or.inr sz_b1) (Or.inr sz_t2))
  have Z14 : n0 ≤ T14.heap.size := Nat.le_trans Z11 Kc14.1
  have O14 := O11.keep Kc14 (ownAll2 (P := fun x => _ ≤ x) (Nat.le_trans hz ge_b1) (Nat.le_trans hz gt2))
  have hk := Nat.le_trans hk Kc14.1
  have N14 := Fr.app N13w N14q
  refine Goes.via (next := T14.setTop (mkF m 33 #[sr a1, .unset] [(.ref b1)])) (fun t k => st14.trans k) ?_
  obtain ⟨Lw15, X15w, N15w⟩ := ownPack X14 N14
  obtain ⟨cq16, kq16, q16a, q16b, q16c⟩ := isOf hZ rfl F14_194
  obtain ⟨_, _, ⟨T16, L16, k16, n16⟩, -, X16, ⟨Lc16, hQ16, l16, y16, z16⟩, st16⟩ := X15w.virtualBack hx (y := (⟨"java/lang/StringBuilder", "toString", "()Ljava/lang/String;"⟩ : MethodName)) (z := (⟨"java/lang/StringBuilder", "toString", "()Ljava/lang/String;"⟩ : MethodName)) hown (mvT hZ (Wd hw 227 rfl)) (mvT hZ (Wd hw 228 rfl)) (notFace_of_selects (args := #[]) (mvT hZ (Wd hw 230 rfl))) (mvT hZ (Wd hw 230 rfl)) (mvT hZ (Wd hw 229 rfl)) (by decide) (backOf (W := 0) (rm37 l Z a0 hw [] b1 t2 kt2 (39 : Int32) x0 x1 (39 : Int32) w0 rE rL eL kL nZ T14.heap n0 Z14 F14_194 Fq14 Cq14 Nq14 Vc14 O14 hz St) hZ (Wd hw 231 rfl) (Wd hw 161 rfl) (by decide) (by decide)) q16a q16c (g := (mkF m 33 #[sr a1, .unset] [(.ref b1)])) rfl (by rw [hml]; rfl) (Steps.refl _) (argsL := []) (rest := []) (lenOf pd_29 rfl) rfl (by show 2 * 0 + _ ≤ _; exact Nat.le_of_eq rfl) (hb hby d26_33) (fun _ _ => ⟨rfl, rfl, (by decide : 4 + 2 ≤ _), (by decide : 28 + 8 ≤ _)⟩)
  dsimp only [Pt.U, Pt.locs, Pt.cells, Pt.slots] at X16 l16 y16 z16 st16 hQ16
  subst l16 y16 z16
  obtain ⟨r16, t16, kt16, rfl, N16q, gr16, zr16, Kc16, Ec16, Cc16, Vq16, Vc16⟩ := hQ16
  have lt_a1_r16 : a1 < r16 := Nat.lt_of_lt_of_le F14_181.lt zr16
  have lt_l1_r16 : l1 < r16 := Nat.lt_of_lt_of_le F14_184.lt zr16
  have lt_t1_r16 : t1 < r16 := Nat.lt_of_lt_of_le F14_186.lt zr16
  have lt_r2_r16 : r2 < r16 := Nat.lt_of_lt_of_le F14_187.lt zr16
  have lt_q1_r16 : q1 < r16 := Nat.lt_of_lt_of_le F14_189.lt zr16
  have lt_ua_r16 : ua < r16 := Nat.lt_of_lt_of_le F14_190.lt zr16
  have lt_tu_r16 : tu < r16 := Nat.lt_of_lt_of_le F14_193.lt zr16
  have lt_b1_r16 : b1 < r16 := Nat.lt_of_lt_of_le F14_194.lt zr16
  have lt_la3_r16 : la3 < r16 := Nat.lt_of_lt_of_le F14_195.lt zr16
  have lt_lb3_r16 : lb3 < r16 := Nat.lt_of_lt_of_le F14_198.lt zr16
  have lt_t2_r16 : t2 < r16 := Nat.lt_of_lt_of_le Vc14.lt zr16
  have sz_r16 : h0.size ≤ r16 := Nat.le_trans K14.1 zr16
  have F16_223 := F14_181.keep Kc16
  have F16_224 := F14_182.keep Kc16 List.not_mem_nil
  have F16_225 := F14_183.keep Kc16 List.not_mem_nil
  have F16_226 := F14_184.keep Kc16
  have F16_227 := F14_185.keep Kc16 List.not_mem_nil
  have F16_228 := F14_186.keep Kc16 List.not_mem_nil
  have F16_229 := F14_187.keep Kc16
  have F16_230 := F14_188.keep Kc16 List.not_mem_nil
  have F16_231 := F14_189.keep Kc16 List.not_mem_nil
  have F16_232 := F14_190.keep Kc16
  have F16_233 := F14_191.keep Kc16 List.not_mem_nil
  have F16_234 := F14_192.keep Kc16 List.not_mem_nil
  have F16_235 := F14_193.keep Kc16 List.not_mem_nil
  have F16_236 := F14_194.keep Kc16
  have F16_237 := F14_195.keep Kc16
  have F16_238 := F14_196.keep Kc16 List.not_mem_nil
  have F16_239 := F14_197.keep Kc16 List.not_mem_nil
  have F16_240 := F14_198.keep Kc16 List.not_mem_nil
  have F16_241 := Fq14.keep Kc16 List.not_mem_nil
  have F16_242 := Cq14.keep Kc16 List.not_mem_nil
  have F16_243 := Nq14.keep Kc16 List.not_mem_nil
  have F16_244 := Vc14.keep Kc16 List.not_mem_nil
  have K16 : Keep h0 T16.heap [] := K14.trans Kc16 (fun x hx => nomatch hx)
  have Z16 : n0 ≤ T16.heap.size := Nat.le_trans Z14 Kc16.1
  have O16 := O14.keep Kc16 (fun x hx => nomatch hx)
  have hk := Nat.le_trans hk Kc16.1
  have N16 := Fr.app N15w N16q
  refine Goes.via (next := T16.setTop (mkF m 36 #[sr a1, .unset] [(.ref r16)])) (fun t k => st16.trans k) ?_
  refine Goes.via (next := T16.setTop (mkF m 38 #[sr a1, sr r16] [(.ref a1)])) (fun t k => XS.astoreN X16.here hx rfl (hb hby d26_36) rfl rfl (l' := #[sr a1, sr r16]) rfl (XS.aloadN X16.here hx rfl (hb hby d26_37) rfl rfl k)) ?_
  obtain ⟨Lw17, X17w, N17w⟩ := ownPack X16 N16
  obtain ⟨cq18, kq18, q18a, q18b, q18c⟩ := isOf hZ rfl F16_223
  obtain ⟨_, _, ⟨T18, L18, k18, n18⟩, -, X18, ⟨Lc18, hQ18, l18, y18, z18⟩, st18⟩ := X17w.virtualBack hx (y := (⟨"com/example/attributes_to_claims/attributestoclaims/cli/CommandArguments$Option", "isFlag", "()Z"⟩ : MethodName)) (z := (⟨"com/example/attributes_to_claims/attributestoclaims/cli/CommandArguments$Option", "isFlag", "()Z"⟩ : MethodName)) hown (mvT hZ (Wd hw 272 rfl)) (mvT hZ (Wd hw 98 rfl)) (notFace_of_selects (args := #[]) (mvT hZ (Wd hw 100 rfl))) (mvT hZ (Wd hw 100 rfl)) (mvT hZ (Wd hw 99 rfl)) (by decide) (backOf (W := 0) (rm17 l Z a0 hw [] a1 l1 t1 k1 T16.heap n0 Z16 F16_225 F16_226 F16_227 F16_228) hZ (Wd hw 101 rfl) (Wd hw 37 rfl) (by decide) (by decide)) q18a q18c (g := (mkF m 38 #[sr a1, sr r16] [(.ref a1)])) rfl (by rw [hml]; rfl) (Steps.refl _) (argsL := []) (rest := []) (lenOf pd_23 rfl) rfl (by show 2 * 0 + _ ≤ _; exact Nat.le_of_eq rfl) (hb hby d26_38) (fun _ _ => ⟨rfl, rfl, (by decide : 6 + 0 ≤ _), (by decide : 36 + 0 ≤ _)⟩)
  dsimp only [Pt.U, Pt.locs, Pt.cells, Pt.slots] at X18 l18 y18 z18 st18 hQ18
  subst l18 y18 z18
  obtain ⟨rfl, N18q, er18⟩ := hQ18
  have e18 : T18.heap = T16.heap := er18
  have N18 := Fr.app N17w N18q
  refine Goes.via (next := T18.setTop (mkF m 41 #[sr a1, sr r16] [(.int (1 : Int32))])) (fun t k => st18.trans k) ?_
  refine Goes.via (next := T18.setTop (mkF m 76 #[sr a1, sr r16] [])) (fun t k => XS.ifYes X18.here hx rfl (pc0 := 41) (pc' := 76) rfl (hb hby d26_41) rfl ((if0 _ _).trans (feq (show ¬ ((1 : Int32) = (0 : Int32)) from (by decide))).2) (by decide) (by decide) k) ?_
  refine Goes.via (next := T18.setTop (mkF m 77 #[sr a1, sr r16] [(.ref r16)])) (fun t k => XS.aloadN X18.here hx rfl (hb hby d26_76) rfl rfl k) ?_
  obtain ⟨fs, hr, hrun, hended, hRE⟩ := X18.leaveW hS (by rw [e18]; exact hk) (v := some (.ref r16)) (fun h => by rw [Bd.returns] at h; cases h)
  refine ⟨_, _, ?_, hrun, hended, _, _, rfl, ?_, hRE.1, hRE.2.1, hRE.2.2.1, hRE.2.2.2.mono (by decide) (by decide)⟩
  · exact retOut X18 hx (t := (.object "java/lang/String")) Bd.returns rfl (Or.inr (Or.inr (Or.inr (Or.inr ⟨rfl, rfl, rfl⟩)))) (hb hby d26_77) hr
  · show Q26_n Z x0 x1 h0 n0 _ T18.heap _ _
    rw [e18]
    exact ⟨r16, t16, _, rfl, N18, gr16, sz_r16, K16, Ec16, Cc16, Vq16, Vc16⟩
theorem pd_30 : parseMethodDescriptor "(I)Ljava/lang/String;" = some ⟨[.int], some (.object "java/lang/String")⟩ := by decide +kernel
theorem pd_31 : parseMethodDescriptor "([Ljava/lang/String;)Lcom/example/attributes_to_claims/attributestoclaims/cli/CommandArguments$Option;" = some ⟨[(.array (.object "java/lang/String"))], some (.object "com/example/attributes_to_claims/attributestoclaims/cli/CommandArguments$Option")⟩ := by decide +kernel
theorem pd_32 : parseMethodDescriptor "()Ljava/util/List;" = some ⟨[], some (.object "java/util/List")⟩ := by decide +kernel
theorem pd_33 : parseMethodDescriptor "(Ljava/lang/Object;)Z" = some ⟨[(.object "java/lang/Object")], some .boolean⟩ := by decide +kernel
theorem ef_0 (m : MethodId) (x0 : Int32) (x1 : Int32) (x2 : Int32) (x3 : Int32) : entryFrame m #[(.int x0), (.int x1), (.int x2), (.int x3)] maxLocals = mkF m 0 #[.val (.int x0), .val (.int x1), .val (.int x2), .val (.int x3), .unset, .unset, .unset, .unset, .unset, .unset, .unset] [] := by first | (simp [entryFrame, mkF, argsToLocals, Value.category, maxLocals]; done) | rfl
def Q0 (Z : State) (h0 : Heap) (n0 : Nat) (v : Option Value) (h : Heap) (vm : Vm) (L : List Loc) : Prop := v = some (.int 1) ∧ Fr n0 L
set_option maxRecDepth 65536 in
set_option maxHeartbeats 40000000 in
theorem rm0 (l : Launch) (Z : State) (a0 : Array Value) (hw : ∀ d ∈ tables_1, d.before a0 Z = true) (ws : List Jvm.Cond) (p1 : Int32) (p2 : Int32) (p3 : Int32) (p4 : Int32) (w0 : Int32) (rE rL eL : Addr) (kL : ClassId) (nZ : Nat) (h0 : Heap) (n0 : Nat) (Z0 : n0 ≤ h0.size) (O0 : Old Z nZ h0) (hz : nZ ≤ n0) (St : own_St Z w0 rE rL eL kL) (hn0 : n0 = h0.size) (hcE : Jvm.Lit.constHeld Z "com/example/attributes_to_claims/attributestoclaims/cli/CommandArguments$Option" 33) (hcQ : Jvm.Lit.constHeld Z "com/example/attributes_to_claims/attributestoclaims/cli/CommandArguments$Option" 44) (hcX : Jvm.Lit.constHeld Z "com/example/attributes_to_claims/attributestoclaims/cli/OptionFlagPinLaw" 24) (hcw : Jvm.Lit.compactW.before a0 Z = true) :
    MFS l x code maxLocals ret ws room_1 #[(.int p1), (.int p2), (.int p3), (.int p4)] Z h0 (fun vm => IB Z vm []) (Q0 Z  h0 n0) := by
  refine MetFree.of_bodySF (plainFor_of_name pn_2) hisR ?_
  intro p e s m args below meth c s₁ Bd hml0 hP hK
  obtain ⟨rfl, hZ, hh, hI⟩ := hP
  have hx := Bd.exec
  have hby := Bd.bytes
  have hml : c.maxLocals = 11 := hml0
  have hown : s.vm.findClass "com/example/attributes_to_claims/attributestoclaims/cli/OptionFlagPinLaw" = some m.cls := findClass_of_methodNamed Bd.named
  have hnm := (name_of_methodNamed Bd.named Bd.method).1
  have X0 : Stand p l e room_1 (s.setVm s.vm) m #[(.int p1), (.int p2), (.int p3), (.int p4)] below meth c s₁ [] 0 0 := Stand.of_body Bd
  have e0 : s₁.heap = h0 := by rw [← hh, Bd.state]; rfl
  have N0 := Fr.nil n0
  have hS : s.Since s.vm 0 := (State.WarmedH.refl s).since 0
  have hk : 0 ≤ h0.size := Nat.zero_le _
  refine Goes.via (next := s₁.setTop (mkF m 0 #[.val (.int p1), .val (.int p2), .val (.int p3), .val (.int p4), .unset, .unset, .unset, .unset, .unset, .unset, .unset] [])) (fun t k => castTop (ef_0 m p1 p2 p3 p4) k) ?_
  refine Goes.via (next := s₁.setTop (mkF m 6 #[si p1, si p2, si p3, si p4, si (p1 &&& (3 : Int32)), .unset, .unset, .unset, .unset, .unset, .unset] [(.int p2)])) (fun t k => XS.iloadN X0.here hx rfl (hb hby at_0) rfl (XS.iconst X0.here hx rfl (hb hby at_1) (XS.iand X0.here hx rfl (hb hby at_2) rfl (XS.istore X0.here hx rfl (hb hby at_3) rfl (l' := #[si p1, si p2, si p3, si p4, si (p1 &&& (3 : Int32)), .unset, .unset, .unset, .unset, .unset, .unset]) rfl (XS.iloadN X0.here hx rfl (hb hby at_5) rfl k))))) ?_
  obtain ⟨_, _, ⟨T1, L1, k1, n1⟩, -, X1, ⟨Lc1, hQ1, l1, y1, z1⟩, st1⟩ := Jvm.LawKit.callS X0 hx (y := (⟨"com/example/attributes_to_claims/attributestoclaims/cli/OptionFlagPinLaw", "name", "(I)Ljava/lang/String;"⟩ : MethodName)) hown (mvT hZ (Wd hw 0 rfl)) (mvT hZ (Wd hw 1 rfl)) (mvT hZ (Wd hw 2 rfl)) (mvT hZ (Wd hw 3 rfl)) (by decide) (backOf (W := 0) (rm1 l Z a0 hw [] p2 w0 rE rL eL kL nZ h0 n0 Z0 O0 hz St) hZ (Wd hw 3 rfl) (Wd hw 2 rfl) (by decide) (by decide)) (g := (mkF m 6 #[si p1, si p2, si p3, si p4, si (p1 &&& (3 : Int32)), .unset, .unset, .unset, .unset, .unset, .unset] [(.int p2)])) rfl (by rw [hml]; rfl) (argsL := [(.int p2)]) (rest := []) (lenOf pd_30 rfl) rfl (by show 2 * 0 + _ ≤ _; exact Nat.le_of_eq rfl) (hb hby at_6) (fun _ _ => ⟨rfl, e0, (by decide : 0 + 3 ≤ _), (by decide : 0 + 8 ≤ _)⟩)
  dsimp only [Pt.U, Pt.locs, Pt.cells, Pt.slots] at X1 l1 y1 z1 st1 hQ1
  subst l1 y1 z1
  obtain ⟨r1, t1, kt1, rfl, N1q, gr1, zr1, Kc1, Ec1, Cc1, Vq1, Vc1⟩ := hQ1
  have sz_r1 : h0.size ≤ r1 := Nat.le_trans (Keep.refl h0 []).1 zr1
  have K1 : Keep h0 T1.heap [] := (Keep.refl h0 []).trans Kc1 (fun x hx => nomatch hx)
  have Z1 : n0 ≤ T1.heap.size := Nat.le_trans Z0 Kc1.1
  have O1 := O0.keep Kc1 (fun x hx => nomatch hx)
  have hk := Nat.le_trans hk Kc1.1
  have N1 := Fr.app N0 N1q
  refine Goes.via (next := T1.setTop (mkF m 9 #[si p1, si p2, si p3, si p4, si (p1 &&& (3 : Int32)), .unset, .unset, .unset, .unset, .unset, .unset] [(.ref r1)])) st1 ?_
  refine Goes.via (next := T1.setTop (mkF m 12 #[si p1, si p2, si p3, si p4, si (p1 &&& (3 : Int32)), sr r1, .unset, .unset, .unset, .unset, .unset] [(.int p3)])) (fun t k => XS.astore X1.here hx rfl (hb hby at_9) rfl rfl (l' := #[si p1, si p2, si p3, si p4, si (p1 &&& (3 : Int32)), sr r1, .unset, .unset, .unset, .unset, .unset]) rfl (XS.iloadN X1.here hx rfl (hb hby at_11) rfl k)) ?_
  obtain ⟨Lw2, X2w, N2w⟩ := ownPack X1 N1
  obtain ⟨_, _, ⟨T3, L3, k3, n3⟩, -, X3, ⟨Lc3, hQ3, l3, y3, z3⟩, st3⟩ := Jvm.LawKit.callS X2w hx (y := (⟨"com/example/attributes_to_claims/attributestoclaims/cli/OptionFlagPinLaw", "name", "(I)Ljava/lang/String;"⟩ : MethodName)) hown (mvT hZ (Wd hw 0 rfl)) (mvT hZ (Wd hw 1 rfl)) (mvT hZ (Wd hw 2 rfl)) (mvT hZ (Wd hw 3 rfl)) (by decide) (backOf (W := 0) (rm1 l Z a0 hw [] p3 w0 rE rL eL kL nZ T1.heap n0 Z1 O1 hz St) hZ (Wd hw 3 rfl) (Wd hw 2 rfl) (by decide) (by decide)) (g := (mkF m 12 #[si p1, si p2, si p3, si p4, si (p1 &&& (3 : Int32)), sr r1, .unset, .unset, .unset, .unset, .unset] [(.int p3)])) rfl (by rw [hml]; rfl) (argsL := [(.int p3)]) (rest := []) (lenOf pd_30 rfl) rfl (by show 2 * 0 + _ ≤ _; exact Nat.le_of_eq rfl) (hb hby at_12) (fun _ _ => ⟨rfl, rfl, (by decide : 3 + 3 ≤ _), (by decide : 8 + 8 ≤ _)⟩)
  dsimp only [Pt.U, Pt.locs, Pt.cells, Pt.slots] at X3 l3 y3 z3 st3 hQ3
  subst l3 y3 z3
  obtain ⟨r3, t3, kt3, rfl, N3q, gr3, zr3, Kc3, Ec3, Cc3, Vq3, Vc3⟩ := hQ3
  have lt_r1_r3 : r1 < r3 := Nat.lt_of_lt_of_le Ec1.lt zr3
  have lt_t1_r3 : t1 < r3 := Nat.lt_of_lt_of_le Vc1.lt zr3
  have sz_r3 : h0.size ≤ r3 := Nat.le_trans K1.1 zr3
  have F3_21 := Ec1.keep Kc3
  have F3_22 := Cc1.keep Kc3 List.not_mem_nil
  have F3_23 := Vq1.keep Kc3 List.not_mem_nil
  have F3_24 := Vc1.keep Kc3 List.not_mem_nil
  have K3 : Keep h0 T3.heap [] := K1.trans Kc3 (fun x hx => nomatch hx)
  have Z3 : n0 ≤ T3.heap.size := Nat.le_trans Z1 Kc3.1
  have O3 := O1.keep Kc3 (fun x hx => nomatch hx)
  have hk := Nat.le_trans hk Kc3.1
  have N3 := Fr.app N2w N3q
  refine Goes.via (next := T3.setTop (mkF m 15 #[si p1, si p2, si p3, si p4, si (p1 &&& (3 : Int32)), sr r1, .unset, .unset, .unset, .unset, .unset] [(.ref r3)])) st3 ?_
  refine Goes.via (next := T3.setTop (mkF m 18 #[si p1, si p2, si p3, si p4, si (p1 &&& (3 : Int32)), sr r1, sr r3, .unset, .unset, .unset, .unset] [(.int p4)])) (fun t k => XS.astore X3.here hx rfl (hb hby at_15) rfl rfl (l' := #[si p1, si p2, si p3, si p4, si (p1 &&& (3 : Int32)), sr r1, sr r3, .unset, .unset, .unset, .unset]) rfl (XS.iloadN X3.here hx rfl (hb hby at_17) rfl k)) ?_
  obtain ⟨Lw4, X4w, N4w⟩ := ownPack X3 N3
  obtain ⟨_, _, ⟨T5, L5, k5, n5⟩, -, X5, ⟨Lc5, hQ5, l5, y5, z5⟩, st5⟩ := Jvm.LawKit.callS X4w hx (y := (⟨"com/example/attributes_to_claims/attributestoclaims/cli/OptionFlagPinLaw", "name", "(I)Ljava/lang/String;"⟩ : MethodName)) hown (mvT hZ (Wd hw 0 rfl)) (mvT hZ (Wd hw 1 rfl)) (mvT hZ (Wd hw 2 rfl)) (mvT hZ (Wd hw 3 rfl)) (by decide) (backOf (W := 0) (rm1 l Z a0 hw [] p4 w0 rE rL eL kL nZ T3.heap n0 Z3 O3 hz St) hZ (Wd hw 3 rfl) (Wd hw 2 rfl) (by decide) (by decide)) (g := (mkF m 18 #[si p1, si p2, si p3, si p4, si (p1 &&& (3 : Int32)), sr r1, sr r3, .unset, .unset, .unset, .unset] [(.int p4)])) rfl (by rw [hml]; rfl) (argsL := [(.int p4)]) (rest := []) (lenOf pd_30 rfl) rfl (by show 2 * 0 + _ ≤ _; exact Nat.le_of_eq rfl) (hb hby at_18) (fun _ _ => ⟨rfl, rfl, (by decide : 6 + 3 ≤ _), (by decide : 16 + 8 ≤ _)⟩)
  dsimp only [Pt.U, Pt.locs, Pt.cells, Pt.slots] at X5 l5 y5 z5 st5 hQ5
  subst l5 y5 z5
  obtain ⟨r5, t5, kt5, rfl, N5q, gr5, zr5, Kc5, Ec5, Cc5, Vq5, Vc5⟩ := hQ5
  have lt_r1_r5 : r1 < r5 := Nat.lt_of_lt_of_le F3_21.lt zr5
  have lt_t1_r5 : t1 < r5 := Nat.lt_of_lt_of_le F3_24.lt zr5
  have lt_r3_r5 : r3 < r5 := Nat.lt_of_lt_of_le Ec3.lt zr5
  have lt_t3_r5 : t3 < r5 := Nat.lt_of_lt_of_le Vc3.lt zr5
  have sz_r5 : h0.size ≤ r5 := Nat.le_trans K3.1 zr5
  have F5_42 := F3_21.keep Kc5
  have F5_43 := F3_22.keep Kc5 List.not_mem_nil
  have F5_44 := F3_23.keep Kc5 List.not_mem_nil
  have F5_45 := F3_24.keep Kc5 List.not_mem_nil
  have F5_46 := Ec3.keep Kc5
  have F5_47 := Cc3.keep Kc5 List.not_mem_nil
  have F5_48 := Vq3.keep Kc5 List.not_mem_nil
  have F5_49 := Vc3.keep Kc5 List.not_mem_nil
  have K5 : Keep h0 T5.heap [] := K3.trans Kc5 (fun x hx => nomatch hx)
  have Z5 : n0 ≤ T5.heap.size := Nat.le_trans Z3 Kc5.1
  have O5 := O3.keep Kc5 (fun x hx => nomatch hx)
  have hk := Nat.le_trans hk Kc5.1
  have N5 := Fr.app N4w N5q
  refine Goes.via (next := T5.setTop (mkF m 21 #[si p1, si p2, si p3, si p4, si (p1 &&& (3 : Int32)), sr r1, sr r3, .unset, .unset, .unset, .unset] [(.ref r5)])) st5 ?_
  refine Goes.via (next := T5.setTop (mkF m 25 #[si p1, si p2, si p3, si p4, si (p1 &&& (3 : Int32)), sr r1, sr r3, sr r5, .unset, .unset, .unset] [(.int (p1 &&& (3 : Int32)))])) (fun t k => XS.astore X5.here hx rfl (hb hby at_21) rfl rfl (l' := #[si p1, si p2, si p3, si p4, si (p1 &&& (3 : Int32)), sr r1, sr r3, sr r5, .unset, .unset, .unset]) rfl (XS.iload X5.here hx rfl (hb hby at_23) rfl k)) ?_
  rcases own_len p1 with hl | hl | hl | hl
  · rw [hl]
    show Goes p e below (T5.setTop (mkF m 25 #[si p1, si p2, si p3, si p4, si (0 : Int32), sr r1, sr r3, sr r5, .unset, .unset, .unset] [(.int (0 : Int32))])) _
    refine Goes.via (next := T5.setTop (mkF m 28 #[si p1, si p2, si p3, si p4, si (0 : Int32), sr r1, sr r3, sr r5, .unset, .unset, .unset] [])) (fun t k => XS.ifNo X5.here hx rfl (hb hby at_25) rfl ((if0 _ _).trans (teq (show (0 : Int32) = (0 : Int32) from rfl)).2) k) ?_
    refine Goes.via (next := T5.setTop (mkF m 29 #[si p1, si p2, si p3, si p4, si (0 : Int32), sr r1, sr r3, sr r5, .unset, .unset, .unset] [(.int (0 : Int32))])) (fun t k => XS.iconst X5.here hx rfl (hb hby at_28) k) ?_
    obtain ⟨T6, h6, ka6, X6, e6, E6, A6, Ov6, st6⟩ := newR X5 hx hZ hown (Wd hw 4 rfl) (Wd hw 34 rfl) rfl (g := (mkF m 29 #[si p1, si p2, si p3, si p4, si (0 : Int32), sr r1, sr r3, sr r5, .unset, .unset, .unset] [(.int (0 : Int32))])) rfl (hb hby at_29) rfl (by decide) (cap := 0) (by decide) (by decide) (by decide) (by decide)
    obtain ⟨b6, g6⟩ : ∃ z, z = T5.heap.size := ⟨_, rfl⟩
    rw [← g6] at A6 st6
    have lt_r1_b6 : r1 < b6 := Nat.lt_of_lt_of_le F5_42.lt (Nat.le_of_eq g6.symm)
    have lt_t1_b6 : t1 < b6 := Nat.lt_of_lt_of_le F5_45.lt (Nat.le_of_eq g6.symm)
    have lt_r3_b6 : r3 < b6 := Nat.lt_of_lt_of_le F5_46.lt (Nat.le_of_eq g6.symm)
    have lt_t3_b6 : t3 < b6 := Nat.lt_of_lt_of_le F5_49.lt (Nat.le_of_eq g6.symm)
    have lt_r5_b6 : r5 < b6 := Nat.lt_of_lt_of_le Ec5.lt (Nat.le_of_eq g6.symm)
    have lt_t5_b6 : t5 < b6 := Nat.lt_of_lt_of_le Vc5.lt (Nat.le_of_eq g6.symm)
    have ge_b6 : n0 ≤ b6 := Nat.le_trans Z5 (Nat.le_of_eq g6.symm)
    have sz_b6 : h0.size ≤ b6 := Nat.le_trans K5.1 (Nat.le_of_eq g6.symm)
    have F6_13 := F5_42.ext E6
    have F6_14 := F5_43.ext E6
    have F6_15 := F5_44.ext E6
    have F6_16 := F5_45.ext E6
    have F6_17 := F5_46.ext E6
    have F6_18 := F5_47.ext E6
    have F6_19 := F5_48.ext E6
    have F6_20 := F5_49.ext E6
    have F6_21 := Ec5.ext E6
    have F6_22 := Cc5.ext E6
    have F6_23 := Vq5.ext E6
    have F6_24 := Vc5.ext E6
    have K6 : Keep h0 h6 [] := K5.ext E6
    have Z6 : n0 ≤ h6.size := Nat.le_trans Z5 E6.1
    have O6 := O5.ext E6
    have hk := Nat.le_trans hk E6.1
    have V6 : Arv Z h6 b6 ka6 (.object "java/lang/String") (0 : Int32) [] .null := (Arv.new A6 (by decide)).pad (pad_rep [] .null 0)
    refine Goes.via (next := T6.setTop (mkF m 32 #[si p1, si p2, si p3, si p4, si (0 : Int32), sr r1, sr r3, sr r5, .unset, .unset, .unset] [(.ref b6)])) st6 ?_
    refine Goes.via (next := T6.setTop (mkF m 105 #[si p1, si p2, si p3, si p4, si (0 : Int32), sr r1, sr r3, sr r5, sr b6, .unset, .unset] [(.ref b6)])) (fun t k => XS.astore X6.here hx rfl (hb hby at_32) rfl rfl (l' := #[si p1, si p2, si p3, si p4, si (0 : Int32), sr r1, sr r3, sr r5, sr b6, .unset, .unset]) rfl (XS.goto X6.here hx rfl (pc0 := 34) (pc' := 103) rfl (hb hby at_34) (by decide) (by decide) (XS.aload X6.here hx rfl (hb hby at_103) rfl rfl k))) ?_
    obtain ⟨Lw7, X7w, N7w⟩ := ownPack X6 N5
    obtain ⟨_, _, ⟨T8, L8, k8, n8⟩, -, X8, S8, sg8, ⟨Lc8, hQ8, l8, y8, z8⟩, st8⟩ := callSS X7w hx (y := (⟨"com/example/attributes_to_claims/attributestoclaims/cli/CommandArguments$Option", "flag", "([Ljava/lang/String;)Lcom/example/attributes_to_claims/attributestoclaims/cli/CommandArguments$Option;"⟩ : MethodName)) hown (mvT hZ (Wd hw 35 rfl)) (mvT hZ (Wd hw 36 rfl)) (mvT hZ (Wd hw 37 rfl)) (mvT hZ (Wd hw 38 rfl)) (by decide) (ownBackS (W := 0) (I := fun vm => IB Z vm []) (rm8_0 l Z a0 hw [] b6 ka6 w0 rE rL eL kL nZ h6 h6.size (Nat.le_refl _) V6 O6 (Nat.le_trans hz Z6) St rfl hcE hcw) hZ (fun vm q => hI.warm q) (Wd hw 38 rfl) (Wd hw 37 rfl) (by decide) (by decide)) (g := (mkF m 105 #[si p1, si p2, si p3, si p4, si (0 : Int32), sr r1, sr r3, sr r5, sr b6, .unset, .unset] [(.ref b6)])) rfl (by rw [hml]; rfl) (argsL := [(.ref b6)]) (rest := []) (lenOf pd_31 rfl) rfl (by show 2 * 0 + _ ≤ _; exact Nat.le_of_eq rfl) (hb hby at_105) (fun _ _ => ⟨rfl, e6, (by decide : 10 + 3 ≤ _), (by decide : 24 + 7 ≤ _)⟩)
    dsimp only [Pt.U, Pt.locs, Pt.cells, Pt.slots] at X8 l8 y8 z8 st8 hQ8 S8 sg8
    subst l8 y8 z8
    obtain ⟨X8f, hS8, hZ8, hown8⟩ := rebS hS hk X8 S8 (by rw [← e6]; exact sg8) hZ hown
    have X8 := X8f
    have hS := hS8
    have hZ := hZ8
    have hown := hown8
    have hk : T8.heap.size ≤ T8.heap.size := Nat.le_refl _
    obtain ⟨r8, rn8, lv8, t8, kt8, rfl, N8q, Kc8, Ec8, Fn8, Fl8, Fp8, Ht8, Fv8, El8, Vl8, oI8⟩ := hQ8
    have N8q : Fr n0 _ := fun y q => Nat.le_trans Z6 (N8q y q)
    rw [Ht8] at Fn8
    have F8_45 := F6_13.keep Kc8
    have F8_46 := F6_14.keep Kc8 List.not_mem_nil
    have F8_47 := F6_15.keep Kc8 List.not_mem_nil
    have F8_48 := F6_16.keep Kc8 List.not_mem_nil
    have F8_49 := F6_17.keep Kc8
    have F8_50 := F6_18.keep Kc8 List.not_mem_nil
    have F8_51 := F6_19.keep Kc8 List.not_mem_nil
    have F8_52 := F6_20.keep Kc8 List.not_mem_nil
    have F8_53 := F6_21.keep Kc8
    have F8_54 := F6_22.keep Kc8 List.not_mem_nil
    have F8_55 := F6_23.keep Kc8 List.not_mem_nil
    have F8_56 := F6_24.keep Kc8 List.not_mem_nil
    have F8_57 := V6.keep Kc8 List.not_mem_nil
    have K8 : Keep h0 T8.heap [] := K6.trans Kc8 (fun x hx => nomatch hx)
    have Z8 : n0 ≤ T8.heap.size := Nat.le_trans Z6 Kc8.1
    have O8 := O6.keep Kc8 (fun x hx => nomatch hx)
    have N8 := Fr.app N7w N8q
    have hI := oI8
    have na8 : r8 ≠ b6 := Exa.neArv Ec8 F8_57 (Wd hw 40 rfl)
    have nb8 : lv8 ≠ b6 := Exa.neArv El8 F8_57 (Wd hw 5 rfl)
    refine Goes.via (next := T8.setTop (mkF m 108 #[si p1, si p2, si p3, si p4, si (0 : Int32), sr r1, sr r3, sr r5, sr b6, .unset, .unset] [(.ref r8)])) (fun t k => st8.trans k) ?_
    refine Goes.via (next := T8.setTop (mkF m 123 #[si p1, si p2, si p3, si p4, si (0 : Int32), sr r1, sr r3, sr r5, sr b6, sr r8, .unset] [(.ref r8)])) (fun t k => XS.astore X8.here hx rfl (hb hby at_108) rfl rfl (l' := #[si p1, si p2, si p3, si p4, si (0 : Int32), sr r1, sr r3, sr r5, sr b6, sr r8, .unset]) rfl (XS.iload X8.here hx rfl (hb hby at_110) rfl (XS.ifYes X8.here hx rfl (pc0 := 112) (pc' := 121) rfl (hb hby at_112) rfl ((if0 _ _).trans (flt (show ¬ ((0 : Int32) < (0 : Int32)) from (by decide))).2.2.2) (by decide) (by decide) (XS.aload X8.here hx rfl (hb hby at_121) rfl rfl k)))) ?_
    refine Goes.via (next := T8.setTop (mkF m 128 #[si p1, si p2, si p3, si p4, si (0 : Int32), sr r1, sr r3, sr r5, sr b6, sr r8, .unset] [])) (fun t k => XS.ifnonnullYes X8.here hx rfl (pc0 := 123) (pc' := 128) rfl (hb hby at_123) rfl (by decide) (by decide) k) ?_
    refine Goes.via (next := T8.setTop (mkF m 130 #[si p1, si p2, si p3, si p4, si (0 : Int32), sr r1, sr r3, sr r5, sr b6, sr r8, .unset] [(.ref r8)])) (fun t k => XS.aload X8.here hx rfl (hb hby at_128) rfl rfl k) ?_
    obtain ⟨Lw9, X9w, N9w⟩ := ownPack X8 N8
    obtain ⟨cq10, kq10, q10a, q10b, q10c⟩ := isOf hZ rfl Ec8
    obtain ⟨_, _, ⟨T10, L10, k10, n10⟩, -, X10, ⟨Lc10, hQ10, l10, y10, z10⟩, st10⟩ := X9w.virtualBack hx (y := (⟨"com/example/attributes_to_claims/attributestoclaims/cli/CommandArguments$Option", "names", "()Ljava/util/List;"⟩ : MethodName)) (z := (⟨"com/example/attributes_to_claims/attributestoclaims/cli/CommandArguments$Option", "names", "()Ljava/util/List;"⟩ : MethodName)) hown (mvT hZ (Wd hw 65 rfl)) (mvT hZ (Wd hw 66 rfl)) (notFace_of_selects (args := #[]) (mvT hZ (Wd hw 68 rfl))) (mvT hZ (Wd hw 68 rfl)) (mvT hZ (Wd hw 67 rfl)) (by decide) (backOf (W := 0) (rm12 l Z a0 hw [] r8 rL T8.heap n0 Z8 Fn8) hZ (Wd hw 69 rfl) (Wd hw 37 rfl) (by decide) (by decide)) q10a q10c (g := (mkF m 130 #[si p1, si p2, si p3, si p4, si (0 : Int32), sr r1, sr r3, sr r5, sr b6, sr r8, .unset] [(.ref r8)])) rfl (by rw [hml]; rfl) (Steps.refl _) (argsL := []) (rest := []) (lenOf pd_32 rfl) rfl (by show 2 * 0 + _ ≤ _; exact Nat.le_of_eq rfl) (hb hby at_130) (fun _ _ => ⟨rfl, rfl, (by decide : 13 + 0 ≤ _), (by decide : 31 + 0 ≤ _)⟩)
    dsimp only [Pt.U, Pt.locs, Pt.cells, Pt.slots] at X10 l10 y10 z10 st10 hQ10
    subst l10 y10 z10
    obtain ⟨rfl, N10q, er10⟩ := hQ10
    have e10 : T10.heap = T8.heap := er10
    have N10 := Fr.app N9w N10q
    refine Goes.via (next := T10.setTop (mkF m 133 #[si p1, si p2, si p3, si p4, si (0 : Int32), sr r1, sr r3, sr r5, sr b6, sr r8, .unset] [(.ref rL)])) (fun t k => st10.trans k) ?_
    refine Goes.via (next := T10.setTop (mkF m 137 #[si p1, si p2, si p3, si p4, si (0 : Int32), sr r1, sr r3, sr r5, sr b6, sr r8, sr rL] [(.ref rL)])) (fun t k => XS.astore X10.here hx rfl (hb hby at_133) rfl rfl (l' := #[si p1, si p2, si p3, si p4, si (0 : Int32), sr r1, sr r3, sr r5, sr b6, sr r8, sr rL]) rfl (XS.aload X10.here hx rfl (hb hby at_135) rfl rfl k)) ?_
    obtain ⟨Lw11, X11w, N11w⟩ := ownPack X10 N10
    obtain ⟨cq12, kq12, q12a, q12b, q12c⟩ := isOf hZ e10 (St.2.2.2.2.2.1.ext O8.2)
    obtain ⟨_, _, ⟨T12, L12, k12, n12⟩, -, X12, ⟨Lc12, hQ12, l12, y12, z12⟩, st12⟩ := X11w.interfaceBack hx (xi := (⟨"java/util/List", "size", "()I"⟩ : MethodName)) (y := (⟨"java/util/ImmutableCollections$ListN", "size", "()I"⟩ : MethodName)) hown (mvT hZ (Wd hw 70 rfl)) (mvT hZ (Wd hw 71 rfl)) (mvT hZ (Wd hw 72 rfl)) (mvT hZ (Wd hw 73 rfl)) (mvT hZ (Wd hw 74 rfl)) (mvT hZ (Wd hw 75 rfl)) (mvT hZ (Wd hw 76 rfl)) (mvT hZ (Wd hw 77 rfl)) (by decide) (backOf (W := 0) (rm13_0 l Z a0 hw [] rL eL kL T8.heap n0 Z8 (St.2.2.2.2.2.2.1.ext O8.2) (St.2.2.2.2.2.2.2.ext O8.2)) hZ (Wd hw 79 rfl) (Wd hw 78 rfl) (by decide) (by decide)) q12a q12b q12c (g := (mkF m 137 #[si p1, si p2, si p3, si p4, si (0 : Int32), sr r1, sr r3, sr r5, sr b6, sr r8, sr rL] [(.ref rL)])) rfl (by rw [hml]; rfl) (Steps.refl _) (argsL := []) (rest := []) (lenOf pd_16 rfl) rfl (by show 2 * 0 + _ ≤ _; exact Nat.le_of_eq rfl) (hb hby at_137) (fun _ _ => ⟨rfl, e10, (by decide : 13 + 0 ≤ _), (by decide : 31 + 0 ≤ _)⟩)
    dsimp only [Pt.U, Pt.locs, Pt.cells, Pt.slots] at X12 l12 y12 z12 st12 hQ12
    subst l12 y12 z12
    obtain ⟨rfl, N12q, er12⟩ := hQ12
    have e12 : T12.heap = T8.heap := er12
    have N12 := Fr.app N11w N12q
    refine Goes.via (next := T12.setTop (mkF m 142 #[si p1, si p2, si p3, si p4, si (0 : Int32), sr r1, sr r3, sr r5, sr b6, sr r8, sr rL] [(.int (0 : Int32))])) (fun t k => st12.trans k) ?_
    refine Goes.via (next := T12.setTop (mkF m 178 #[si p1, si p2, si p3, si p4, si (0 : Int32), sr r1, sr r3, sr r5, sr b6, sr r8, sr rL] [(.int (0 : Int32))])) (fun t k => XS.iload X12.here hx rfl (hb hby at_142) rfl (XS.icmpYes X12.here hx rfl (pc0 := 144) (pc' := 149) rfl (hb hby at_144) rfl (teq (show (0 : Int32) = (0 : Int32) from rfl)).1 (by decide) (by decide) (XS.iload X12.here hx rfl (hb hby at_149) rfl (XS.iconst X12.here hx rfl (hb hby at_151) (XS.icmpYes X12.here hx rfl (pc0 := 152) (pc' := 176) rfl (hb hby at_152) rfl (tlt (show (0 : Int32) < (1 : Int32) from (by decide))).1 (by decide) (by decide) (XS.iload X12.here hx rfl (hb hby at_176) rfl k)))))) ?_
    refine Goes.via (next := T12.setTop (mkF m 232 #[si p1, si p2, si p3, si p4, si (0 : Int32), sr r1, sr r3, sr r5, sr b6, sr r8, sr rL] [(.ref r8)])) (fun t k => XS.iconst X12.here hx rfl (hb hby at_178) (XS.icmpYes X12.here hx rfl (pc0 := 179) (pc' := 203) rfl (hb hby at_179) rfl (tlt (show (0 : Int32) < (2 : Int32) from (by decide))).1 (by decide) (by decide) (XS.iload X12.here hx rfl (hb hby at_203) rfl (XS.iconst X12.here hx rfl (hb hby at_205) (XS.icmpYes X12.here hx rfl (pc0 := 206) (pc' := 230) rfl (hb hby at_206) rfl (tlt (show (0 : Int32) < (3 : Int32) from (by decide))).1 (by decide) (by decide) (XS.aload X12.here hx rfl (hb hby at_230) rfl rfl k)))))) ?_
    obtain ⟨Lw13, X13w, N13w⟩ := ownPack X12 N12
    obtain ⟨cq14, kq14, q14a, q14b, q14c⟩ := isOf hZ e12 Ec8
    obtain ⟨_, _, ⟨T14, L14, k14, n14⟩, -, X14, ⟨Lc14, hQ14, l14, y14, z14⟩, st14⟩ := X13w.virtualBack hx (y := (⟨"com/example/attributes_to_claims/attributestoclaims/cli/CommandArguments$Option", "label", "()Ljava/lang/String;"⟩ : MethodName)) (z := (⟨"com/example/attributes_to_claims/attributestoclaims/cli/CommandArguments$Option", "label", "()Ljava/lang/String;"⟩ : MethodName)) hown (mvT hZ (Wd hw 82 rfl)) (mvT hZ (Wd hw 83 rfl)) (notFace_of_selects (args := #[]) (mvT hZ (Wd hw 85 rfl))) (mvT hZ (Wd hw 85 rfl)) (mvT hZ (Wd hw 84 rfl)) (by decide) (backOf (W := 0) (rm14 l Z a0 hw [] r8 lv8 T8.heap n0 Z8 Fl8) hZ (Wd hw 86 rfl) (Wd hw 37 rfl) (by decide) (by decide)) q14a q14c (g := (mkF m 232 #[si p1, si p2, si p3, si p4, si (0 : Int32), sr r1, sr r3, sr r5, sr b6, sr r8, sr rL] [(.ref r8)])) rfl (by rw [hml]; rfl) (Steps.refl _) (argsL := []) (rest := []) (lenOf pd_29 rfl) rfl (by show 2 * 0 + _ ≤ _; exact Nat.le_of_eq rfl) (hb hby at_232) (fun _ _ => ⟨rfl, e12, (by decide : 13 + 0 ≤ _), (by decide : 31 + 0 ≤ _)⟩)
    dsimp only [Pt.U, Pt.locs, Pt.cells, Pt.slots] at X14 l14 y14 z14 st14 hQ14
    subst l14 y14 z14
    obtain ⟨rfl, N14q, er14⟩ := hQ14
    have e14 : T14.heap = T8.heap := er14
    have N14 := Fr.app N13w N14q
    refine Goes.via (next := T14.setTop (mkF m 235 #[si p1, si p2, si p3, si p4, si (0 : Int32), sr r1, sr r3, sr r5, sr b6, sr r8, sr rL] [(.ref lv8)])) (fun t k => st14.trans k) ?_
    obtain ⟨Lw15, X15w, N15w⟩ := ownPack X14 N14
    obtain ⟨cq16, kq16, q16a, q16b, q16c⟩ := isOf hZ e14 El8
    obtain ⟨_, _, ⟨T16, L16, k16, n16⟩, -, X16, ⟨Lc16, hQ16, l16, y16, z16⟩, st16⟩ := X15w.virtualBack hx (y := (⟨"java/lang/String", "isEmpty", "()Z"⟩ : MethodName)) (z := (⟨"java/lang/String", "isEmpty", "()Z"⟩ : MethodName)) hown (mvT hZ (Wd hw 87 rfl)) (mvT hZ (Wd hw 88 rfl)) (notFace_of_selects (args := #[]) (mvT hZ (Wd hw 90 rfl))) (mvT hZ (Wd hw 90 rfl)) (mvT hZ (Wd hw 89 rfl)) (by decide) (backOf (W := 0) (rm15 l Z a0 hw [] lv8 t8 kt8 T8.heap n0 Z8 Fv8 Vl8) hZ (Wd hw 91 rfl) (Wd hw 6 rfl) (by decide) (by decide)) q16a q16c (g := (mkF m 235 #[si p1, si p2, si p3, si p4, si (0 : Int32), sr r1, sr r3, sr r5, sr b6, sr r8, sr rL] [(.ref lv8)])) rfl (by rw [hml]; rfl) (Steps.refl _) (argsL := []) (rest := []) (lenOf pd_23 rfl) rfl (by show 2 * 0 + _ ≤ _; exact Nat.le_of_eq rfl) (hb hby at_235) (fun _ _ => ⟨rfl, e14, (by decide : 13 + 0 ≤ _), (by decide : 31 + 0 ≤ _)⟩)
    dsimp only [Pt.U, Pt.locs, Pt.cells, Pt.slots] at X16 l16 y16 z16 st16 hQ16
    subst l16 y16 z16
    obtain ⟨rfl, N16q, er16⟩ := hQ16
    have e16 : T16.heap = T8.heap := er16
    have N16 := Fr.app N15w N16q
    refine Goes.via (next := T16.setTop (mkF m 238 #[si p1, si p2, si p3, si p4, si (0 : Int32), sr r1, sr r3, sr r5, sr b6, sr r8, sr rL] [(.int (1 : Int32))])) (fun t k => st16.trans k) ?_
    refine Goes.via (next := T16.setTop (mkF m 243 #[si p1, si p2, si p3, si p4, si (0 : Int32), sr r1, sr r3, sr r5, sr b6, sr r8, sr rL] [])) (fun t k => XS.ifYes X16.here hx rfl (pc0 := 238) (pc' := 243) rfl (hb hby at_238) rfl ((if0 _ _).trans (feq (show ¬ ((1 : Int32) = (0 : Int32)) from (by decide))).2) (by decide) (by decide) k) ?_
    refine Goes.via (next := T16.setTop (mkF m 245 #[si p1, si p2, si p3, si p4, si (0 : Int32), sr r1, sr r3, sr r5, sr b6, sr r8, sr rL] [(.ref r8)])) (fun t k => XS.aload X16.here hx rfl (hb hby at_243) rfl rfl k) ?_
    obtain ⟨Lw17, X17w, N17w⟩ := ownPack X16 N16
    obtain ⟨cq18, kq18, q18a, q18b, q18c⟩ := isOf hZ e16 Ec8
    obtain ⟨_, _, ⟨T18, L18, k18, n18⟩, -, X18, ⟨Lc18, hQ18, l18, y18, z18⟩, st18⟩ := X17w.virtualBack hx (y := (⟨"com/example/attributes_to_claims/attributestoclaims/cli/CommandArguments$Option", "repeatable", "()Z"⟩ : MethodName)) (z := (⟨"com/example/attributes_to_claims/attributestoclaims/cli/CommandArguments$Option", "repeatable", "()Z"⟩ : MethodName)) hown (mvT hZ (Wd hw 92 rfl)) (mvT hZ (Wd hw 93 rfl)) (notFace_of_selects (args := #[]) (mvT hZ (Wd hw 95 rfl))) (mvT hZ (Wd hw 95 rfl)) (mvT hZ (Wd hw 94 rfl)) (by decide) (backOf (W := 0) (rm16 l Z a0 hw [] r8  T8.heap n0 Z8 Fp8) hZ (Wd hw 96 rfl) (Wd hw 37 rfl) (by decide) (by decide)) q18a q18c (g := (mkF m 245 #[si p1, si p2, si p3, si p4, si (0 : Int32), sr r1, sr r3, sr r5, sr b6, sr r8, sr rL] [(.ref r8)])) rfl (by rw [hml]; rfl) (Steps.refl _) (argsL := []) (rest := []) (lenOf pd_23 rfl) rfl (by show 2 * 0 + _ ≤ _; exact Nat.le_of_eq rfl) (hb hby at_245) (fun _ _ => ⟨rfl, e16, (by decide : 13 + 0 ≤ _), (by decide : 31 + 0 ≤ _)⟩)
    dsimp only [Pt.U, Pt.locs, Pt.cells, Pt.slots] at X18 l18 y18 z18 st18 hQ18
    subst l18 y18 z18
    obtain ⟨rfl, N18q, er18⟩ := hQ18
    have e18 : T18.heap = T8.heap := er18
    have N18 := Fr.app N17w N18q
    refine Goes.via (next := T18.setTop (mkF m 248 #[si p1, si p2, si p3, si p4, si (0 : Int32), sr r1, sr r3, sr r5, sr b6, sr r8, sr rL] [(.int (0 : Int32))])) (fun t k => st18.trans k) ?_
    refine Goes.via (next := T18.setTop (mkF m 253 #[si p1, si p2, si p3, si p4, si (0 : Int32), sr r1, sr r3, sr r5, sr b6, sr r8, sr rL] [])) (fun t k => XS.ifYes X18.here hx rfl (pc0 := 248) (pc' := 253) rfl (hb hby at_248) rfl ((if0 _ _).trans (teq (show (0 : Int32) = (0 : Int32) from rfl)).1) (by decide) (by decide) k) ?_
    refine Goes.via (next := T18.setTop (mkF m 255 #[si p1, si p2, si p3, si p4, si (0 : Int32), sr r1, sr r3, sr r5, sr b6, sr r8, sr rL] [(.ref r8)])) (fun t k => XS.aload X18.here hx rfl (hb hby at_253) rfl rfl k) ?_
    obtain ⟨Lw19, X19w, N19w⟩ := ownPack X18 N18
    obtain ⟨cq20, kq20, q20a, q20b, q20c⟩ := isOf hZ e18 Ec8
    obtain ⟨_, _, ⟨T20, L20, k20, n20⟩, -, X20, ⟨Lc20, hQ20, l20, y20, z20⟩, st20⟩ := X19w.virtualBack hx (y := (⟨"com/example/attributes_to_claims/attributestoclaims/cli/CommandArguments$Option", "isFlag", "()Z"⟩ : MethodName)) (z := (⟨"com/example/attributes_to_claims/attributestoclaims/cli/CommandArguments$Option", "isFlag", "()Z"⟩ : MethodName)) hown (mvT hZ (Wd hw 97 rfl)) (mvT hZ (Wd hw 98 rfl)) (notFace_of_selects (args := #[]) (mvT hZ (Wd hw 100 rfl))) (mvT hZ (Wd hw 100 rfl)) (mvT hZ (Wd hw 99 rfl)) (by decide) (backOf (W := 0) (rm17 l Z a0 hw [] r8 lv8 t8 kt8 T8.heap n0 Z8 Fl8 El8 Fv8 Vl8) hZ (Wd hw 101 rfl) (Wd hw 37 rfl) (by decide) (by decide)) q20a q20c (g := (mkF m 255 #[si p1, si p2, si p3, si p4, si (0 : Int32), sr r1, sr r3, sr r5, sr b6, sr r8, sr rL] [(.ref r8)])) rfl (by rw [hml]; rfl) (Steps.refl _) (argsL := []) (rest := []) (lenOf pd_23 rfl) rfl (by show 2 * 0 + _ ≤ _; exact Nat.le_of_eq rfl) (hb hby at_255) (fun _ _ => ⟨rfl, e18, (by decide : 13 + 0 ≤ _), (by decide : 31 + 0 ≤ _)⟩)
    dsimp only [Pt.U, Pt.locs, Pt.cells, Pt.slots] at X20 l20 y20 z20 st20 hQ20
    subst l20 y20 z20
    obtain ⟨rfl, N20q, er20⟩ := hQ20
    have e20 : T20.heap = T8.heap := er20
    have N20 := Fr.app N19w N20q
    refine Goes.via (next := T20.setTop (mkF m 258 #[si p1, si p2, si p3, si p4, si (0 : Int32), sr r1, sr r3, sr r5, sr b6, sr r8, sr rL] [(.int (1 : Int32))])) (fun t k => st20.trans k) ?_
    refine Goes.via (next := T20.setTop (mkF m 263 #[si p1, si p2, si p3, si p4, si (0 : Int32), sr r1, sr r3, sr r5, sr b6, sr r8, sr rL] [])) (fun t k => XS.ifYes X20.here hx rfl (pc0 := 258) (pc' := 263) rfl (hb hby at_258) rfl ((if0 _ _).trans (feq (show ¬ ((1 : Int32) = (0 : Int32)) from (by decide))).2) (by decide) (by decide) k) ?_
    refine Goes.via (next := T20.setTop (mkF m 287 #[si p1, si p2, si p3, si p4, si (0 : Int32), sr r1, sr r3, sr r5, sr b6, sr r8, sr rL] [(.int (1 : Int32))])) (fun t k => XS.iload X20.here hx rfl (hb hby at_263) rfl (XS.iconst X20.here hx rfl (hb hby at_265) (XS.icmpYes X20.here hx rfl (pc0 := 266) (pc' := 286) rfl (hb hby at_266) rfl (tlt (show (0 : Int32) < (1 : Int32) from (by decide))).1 (by decide) (by decide) (XS.iconst X20.here hx rfl (hb hby at_286) k)))) ?_
    obtain ⟨fs, hr, hrun, hended, hRE⟩ := X20.leaveW hS (by rw [e20]; exact hk) (v := some (.int (1 : Int32))) (fun h => by rw [Bd.returns] at h; cases h)
    refine ⟨_, _, ?_, hrun, hended, _, _, rfl, ?_, hRE.1, hRE.2.1, hRE.2.2.1, hRE.2.2.2.mono (by decide) (by decide)⟩
    · exact retN X20 hx (t := .boolean) Bd.returns (by simp) (hb hby at_287) hr
    · show Q0 Z  h0 n0 _ T20.heap _ _
      rw [e20]
      exact ⟨rfl, N20⟩
  · rw [hl]
    show Goes p e below (T5.setTop (mkF m 25 #[si p1, si p2, si p3, si p4, si (1 : Int32), sr r1, sr r3, sr r5, .unset, .unset, .unset] [(.int (1 : Int32))])) _
    refine Goes.via (next := T5.setTop (mkF m 37 #[si p1, si p2, si p3, si p4, si (1 : Int32), sr r1, sr r3, sr r5, .unset, .unset, .unset] [])) (fun t k => XS.ifYes X5.here hx rfl (pc0 := 25) (pc' := 37) rfl (hb hby at_25) rfl ((if0 _ _).trans (feq (show ¬ ((1 : Int32) = (0 : Int32)) from (by decide))).2) (by decide) (by decide) k) ?_
    refine Goes.via (next := T5.setTop (mkF m 44 #[si p1, si p2, si p3, si p4, si (1 : Int32), sr r1, sr r3, sr r5, .unset, .unset, .unset] [(.int (1 : Int32))])) (fun t k => XS.iload X5.here hx rfl (hb hby at_37) rfl (XS.iconst X5.here hx rfl (hb hby at_39) (XS.icmpNo X5.here hx rfl (hb hby at_40) rfl (teq (show (1 : Int32) = (1 : Int32) from rfl)).2 (XS.iconst X5.here hx rfl (hb hby at_43) k)))) ?_
    obtain ⟨T21, h21, ka21, X21, e21, E21, A21, Ov21, st21⟩ := newR X5 hx hZ hown (Wd hw 4 rfl) (Wd hw 34 rfl) rfl (g := (mkF m 44 #[si p1, si p2, si p3, si p4, si (1 : Int32), sr r1, sr r3, sr r5, .unset, .unset, .unset] [(.int (1 : Int32))])) rfl (hb hby at_44) rfl (by decide) (cap := 1) (by decide) (by decide) (by decide) (by decide)
    obtain ⟨b21, g21⟩ : ∃ z, z = T5.heap.size := ⟨_, rfl⟩
    rw [← g21] at A21 st21
    have lt_r1_b21 : r1 < b21 := Nat.lt_of_lt_of_le F5_42.lt (Nat.le_of_eq g21.symm)
    have lt_t1_b21 : t1 < b21 := Nat.lt_of_lt_of_le F5_45.lt (Nat.le_of_eq g21.symm)
    have lt_r3_b21 : r3 < b21 := Nat.lt_of_lt_of_le F5_46.lt (Nat.le_of_eq g21.symm)
    have lt_t3_b21 : t3 < b21 := Nat.lt_of_lt_of_le F5_49.lt (Nat.le_of_eq g21.symm)
    have lt_r5_b21 : r5 < b21 := Nat.lt_of_lt_of_le Ec5.lt (Nat.le_of_eq g21.symm)
    have lt_t5_b21 : t5 < b21 := Nat.lt_of_lt_of_le Vc5.lt (Nat.le_of_eq g21.symm)
    have ge_b21 : n0 ≤ b21 := Nat.le_trans Z5 (Nat.le_of_eq g21.symm)
    have sz_b21 : h0.size ≤ b21 := Nat.le_trans K5.1 (Nat.le_of_eq g21.symm)
    have F21_13 := F5_42.ext E21
    have F21_14 := F5_43.ext E21
    have F21_15 := F5_44.ext E21
    have F21_16 := F5_45.ext E21
    have F21_17 := F5_46.ext E21
    have F21_18 := F5_47.ext E21
    have F21_19 := F5_48.ext E21
    have F21_20 := F5_49.ext E21
    have F21_21 := Ec5.ext E21
    have F21_22 := Cc5.ext E21
    have F21_23 := Vq5.ext E21
    have F21_24 := Vc5.ext E21
    have K21 : Keep h0 h21 [] := K5.ext E21
    have Z21 : n0 ≤ h21.size := Nat.le_trans Z5 E21.1
    have O21 := O5.ext E21
    have hk := Nat.le_trans hk E21.1
    have V21 : Arv Z h21 b21 ka21 (.object "java/lang/String") (1 : Int32) [.null] .null := (Arv.new A21 (by decide)).pad (pad_rep [] .null 1)
    refine Goes.via (next := T21.setTop (mkF m 47 #[si p1, si p2, si p3, si p4, si (1 : Int32), sr r1, sr r3, sr r5, .unset, .unset, .unset] [(.ref b21)])) st21 ?_
    refine Goes.via (next := T21.setTop (mkF m 51 #[si p1, si p2, si p3, si p4, si (1 : Int32), sr r1, sr r3, sr r5, .unset, .unset, .unset] [(.ref r1), (.int (0 : Int32)), (.ref b21), (.ref b21)])) (fun t k => XS.dup X21.here hx rfl (hb hby at_47) rfl rfl (XS.iconst X21.here hx rfl (hb hby at_48) (XS.aload X21.here hx rfl (hb hby at_49) rfl rfl k))) ?_
    obtain ⟨cl22, Ar22, qa22, Sa22, Na22, Ha22, Ga22⟩ := V21
    have hin22 : ¬ ((0 : Int32) < 0 ∨ cl22.slots.size ≤ ((0 : Int32)).toNatClampNeg) := inb_of Sa22 ⟨by decide, by decide⟩
    obtain ⟨T22, h22, X22, e22, W22, st22⟩ := stR X21 hx hZ e21 Ar22 (j := (0 : Int32)) hin22 rfl (Sto.ofV Ar22 qa22 Ov21 (Ins.self F21_13)) (g := (mkF m 51 #[si p1, si p2, si p3, si p4, si (1 : Int32), sr r1, sr r3, sr r5, .unset, .unset, .unset] [(.ref r1), (.int (0 : Int32)), (.ref b21), (.ref b21)])) rfl rfl (hb hby at_51)
    have V22 : Arv Z h22 b21 ka21 (.object "java/lang/String") (1 : Int32) [(.ref r1)] .null := Arv.set Ar22 qa22 Sa22 Na22 Ha22 Ga22 rfl W22 0 rfl (Nat.le_of_ble_eq_true rfl)
    have F22_36 := F21_13.wr W22
    have F22_37 := F21_14.other W22 (Or.inl (Nat.ne_of_lt lt_r1_b21))
    have F22_38 := F21_15.other W22 (Or.inl (Nat.ne_of_lt lt_r1_b21))
    have F22_39 := F21_16.other W22 (Nat.ne_of_lt lt_t1_b21)
    have F22_40 := F21_17.wr W22
    have F22_41 := F21_18.other W22 (Or.inl (Nat.ne_of_lt lt_r3_b21))
    have F22_42 := F21_19.other W22 (Or.inl (Nat.ne_of_lt lt_r3_b21))
    have F22_43 := F21_20.other W22 (Nat.ne_of_lt lt_t3_b21)
    have F22_44 := F21_21.wr W22
    have F22_45 := F21_22.other W22 (Or.inl (Nat.ne_of_lt lt_r5_b21))
    have F22_46 := F21_23.other W22 (Or.inl (Nat.ne_of_lt lt_r5_b21))
    have F22_47 := F21_24.other W22 (Nat.ne_of_lt lt_t5_b21)
    have K22 : Keep h0 h22 [] := K21.wr W22 (Or.inr sz_b21)
    have Z22 : n0 ≤ h22.size := Nat.le_trans Z21 (Keep.of_wr W22).1
    have N22 := Fr.snoc X22 N5 ge_b21
    have O22 := O21.wr W22 (Nat.le_trans hz ge_b21)
    have hk := Nat.le_trans hk (Keep.of_wr W22).1
    refine Goes.via (next := T22.setTop (mkF m 52 #[si p1, si p2, si p3, si p4, si (1 : Int32), sr r1, sr r3, sr r5, .unset, .unset, .unset] [(.ref b21)])) st22 ?_
    refine Goes.via (next := T22.setTop (mkF m 105 #[si p1, si p2, si p3, si p4, si (1 : Int32), sr r1, sr r3, sr r5, sr b21, .unset, .unset] [(.ref b21)])) (fun t k => XS.astore X22.here hx rfl (hb hby at_52) rfl rfl (l' := #[si p1, si p2, si p3, si p4, si (1 : Int32), sr r1, sr r3, sr r5, sr b21, .unset, .unset]) rfl (XS.goto X22.here hx rfl (pc0 := 54) (pc' := 103) rfl (hb hby at_54) (by decide) (by decide) (XS.aload X22.here hx rfl (hb hby at_103) rfl rfl k))) ?_
    obtain ⟨Lw23, X23w, N23w⟩ := ownPack X22 N22
    obtain ⟨_, _, ⟨T24, L24, k24, n24⟩, -, X24, S24, sg24, ⟨Lc24, hQ24, l24, y24, z24⟩, st24⟩ := callSS X23w hx (y := (⟨"com/example/attributes_to_claims/attributestoclaims/cli/CommandArguments$Option", "flag", "([Ljava/lang/String;)Lcom/example/attributes_to_claims/attributestoclaims/cli/CommandArguments$Option;"⟩ : MethodName)) hown (mvT hZ (Wd hw 35 rfl)) (mvT hZ (Wd hw 36 rfl)) (mvT hZ (Wd hw 37 rfl)) (mvT hZ (Wd hw 38 rfl)) (by decide) (ownBackS (W := 0) (I := fun vm => IB Z vm []) (rm8_1 l Z a0 hw [] b21 r1 ka21 w0 rE rL eL kL nZ h22 h22.size (Nat.le_refl _) V22 F22_36 O22 (Nat.le_trans hz Z22) St rfl hcE hcw) hZ (fun vm q => hI.warm q) (Wd hw 38 rfl) (Wd hw 37 rfl) (by decide) (by decide)) (g := (mkF m 105 #[si p1, si p2, si p3, si p4, si (1 : Int32), sr r1, sr r3, sr r5, sr b21, .unset, .unset] [(.ref b21)])) rfl (by rw [hml]; rfl) (argsL := [(.ref b21)]) (rest := []) (lenOf pd_31 rfl) rfl (by show 2 * 0 + _ ≤ _; exact Nat.le_of_eq rfl) (hb hby at_105) (fun _ _ => ⟨rfl, e22, (by decide : 10 + 4 ≤ _), (by decide : 25 + 9 ≤ _)⟩)
    dsimp only [Pt.U, Pt.locs, Pt.cells, Pt.slots] at X24 l24 y24 z24 st24 hQ24 S24 sg24
    subst l24 y24 z24
    obtain ⟨X24f, hS24, hZ24, hown24⟩ := rebS hS hk X24 S24 (by rw [← e22]; exact sg24) hZ hown
    have X24 := X24f
    have hS := hS24
    have hZ := hZ24
    have hown := hown24
    have hk : T24.heap.size ≤ T24.heap.size := Nat.le_refl _
    obtain ⟨r24, rn24, lv24, t24, kt24, rfl, N24q, Kc24, Ec24, Fn24, Fl24, Fp24, Ht24, Fv24, El24, Vl24, oI24⟩ := hQ24
    have N24q : Fr n0 _ := fun y q => Nat.le_trans Z22 (N24q y q)
    obtain ⟨zr24, En24, Fa24, Fb24⟩ := Ht24
    have lt_r1_rn24 : r1 < rn24 := Nat.lt_of_lt_of_le F22_36.lt zr24
    have lt_t1_rn24 : t1 < rn24 := Nat.lt_of_lt_of_le F22_39.lt zr24
    have lt_r3_rn24 : r3 < rn24 := Nat.lt_of_lt_of_le F22_40.lt zr24
    have lt_t3_rn24 : t3 < rn24 := Nat.lt_of_lt_of_le F22_43.lt zr24
    have lt_r5_rn24 : r5 < rn24 := Nat.lt_of_lt_of_le F22_44.lt zr24
    have lt_t5_rn24 : t5 < rn24 := Nat.lt_of_lt_of_le F22_47.lt zr24
    have lt_b21_rn24 : b21 < rn24 := Nat.lt_of_lt_of_le V22.lt zr24
    have F24_75 := F22_36.keep Kc24
    have F24_76 := F22_37.keep Kc24 List.not_mem_nil
    have F24_77 := F22_38.keep Kc24 List.not_mem_nil
    have F24_78 := F22_39.keep Kc24 List.not_mem_nil
    have F24_79 := F22_40.keep Kc24
    have F24_80 := F22_41.keep Kc24 List.not_mem_nil
    have F24_81 := F22_42.keep Kc24 List.not_mem_nil
    have F24_82 := F22_43.keep Kc24 List.not_mem_nil
    have F24_83 := F22_44.keep Kc24
    have F24_84 := F22_45.keep Kc24 List.not_mem_nil
    have F24_85 := F22_46.keep Kc24 List.not_mem_nil
    have F24_86 := F22_47.keep Kc24 List.not_mem_nil
    have F24_87 := V22.keep Kc24 List.not_mem_nil
    have K24 : Keep h0 T24.heap [] := K22.trans Kc24 (fun x hx => nomatch hx)
    have Z24 : n0 ≤ T24.heap.size := Nat.le_trans Z22 Kc24.1
    have O24 := O22.keep Kc24 (fun x hx => nomatch hx)
    have N24 := Fr.app N23w N24q
    have hI := oI24
    have na24 : r24 ≠ b21 := Exa.neArv Ec24 F24_87 (Wd hw 40 rfl)
    have nb24 : lv24 ≠ b21 := Exa.neArv El24 F24_87 (Wd hw 5 rfl)
    have nc24 : t24 ≠ b21 := ownNeLen Vl24 F24_87 (by decide)
    refine Goes.via (next := T24.setTop (mkF m 108 #[si p1, si p2, si p3, si p4, si (1 : Int32), sr r1, sr r3, sr r5, sr b21, .unset, .unset] [(.ref r24)])) (fun t k => st24.trans k) ?_
    refine Goes.via (next := T24.setTop (mkF m 118 #[si p1, si p2, si p3, si p4, si (1 : Int32), sr r1, sr r3, sr r5, sr b21, sr r24, .unset] [(.int (0 : Int32)), (.ref b21)])) (fun t k => XS.astore X24.here hx rfl (hb hby at_108) rfl rfl (l' := #[si p1, si p2, si p3, si p4, si (1 : Int32), sr r1, sr r3, sr r5, sr b21, sr r24, .unset]) rfl (XS.iload X24.here hx rfl (hb hby at_110) rfl (XS.ifNo X24.here hx rfl (hb hby at_112) rfl ((if0 _ _).trans (tlt (show (0 : Int32) < (1 : Int32) from (by decide))).2.2.2) (XS.aload X24.here hx rfl (hb hby at_115) rfl rfl (XS.iconst X24.here hx rfl (hb hby at_117) k))))) ?_
    obtain ⟨la25, T25, h25, kk25, lb25, lk25, X25, e25, E25, S25, hk25, Zw25, ow25, Ex25, Fc25, Fv25, Va25, lta25, ltb25, I25, Lt25, st25⟩ := ldcSVL X24 hx hZ hown (Wd hw 140 rfl) (own_wS hw) rfl hS hk (by rw [hh, ← hn0]; exact N24) (fun b cl q => by rw [hh]; exact O0.2.2 b cl q) hI (by decide) hcX hcw (vs := [(.int (120 : Int32))]) (z := (1 : Int32)) ⟨by decide, by decide⟩ (by decide) (by decide) (g := (mkF m 118 #[si p1, si p2, si p3, si p4, si (1 : Int32), sr r1, sr r3, sr r5, sr b21, sr r24, .unset] [(.int (0 : Int32)), (.ref b21)])) rfl (hb hby at_118) (n := 4) (by decide) (by decide) (by decide) (by decide)
    have F25_99 := F24_75.ext E25
    have F25_100 := F24_76.ext E25
    have F25_101 := F24_77.ext E25
    have F25_102 := F24_78.ext E25
    have F25_103 := F24_79.ext E25
    have F25_104 := F24_80.ext E25
    have F25_105 := F24_81.ext E25
    have F25_106 := F24_82.ext E25
    have F25_107 := F24_83.ext E25
    have F25_108 := F24_84.ext E25
    have F25_109 := F24_85.ext E25
    have F25_110 := F24_86.ext E25
    have F25_111 := F24_87.ext E25
    have F25_112 := Ec24.ext E25
    have F25_113 := Fn24.ext E25
    have F25_114 := Fl24.ext E25
    have F25_115 := Fp24.ext E25
    have F25_116 := El24.ext E25
    have F25_117 := Fv24.ext E25
    have F25_118 := Vl24.ext E25
    have F25_119 := En24.ext E25
    have F25_120 := Fa24.ext E25
    have F25_121 := Fb24.ext E25
    have K25 : Keep h0 h25 [] := K24.ext E25
    have Z25 : n0 ≤ h25.size := Nat.le_trans Z24 E25.1
    have O25 := O24.ext E25
    have hZ := Zw25
    have hown := ow25
    have hS := S25
    have hk := hk25
    have hI := I25
    refine Goes.via (next := T25.setTop (mkF m 120 #[si p1, si p2, si p3, si p4, si (1 : Int32), sr r1, sr r3, sr r5, sr b21, sr r24, .unset] [(.ref la25), (.int (0 : Int32)), (.ref b21)])) st25 ?_
    obtain ⟨cl26, Ar26, qa26, Sa26, Na26, Ha26, Ga26⟩ := F25_111
    have hin26 : ¬ ((0 : Int32) < 0 ∨ cl26.slots.size ≤ ((0 : Int32)).toNatClampNeg) := inb_of Sa26 ⟨by decide, by decide⟩
    obtain ⟨T26, h26, X26, e26, W26, st26⟩ := stR X25 hx hZ e25 Ar26 (j := (0 : Int32)) hin26 rfl (Sto.ofV Ar26 qa26 Ov21 (Ins.self Ex25)) (g := (mkF m 120 #[si p1, si p2, si p3, si p4, si (1 : Int32), sr r1, sr r3, sr r5, sr b21, sr r24, .unset] [(.ref la25), (.int (0 : Int32)), (.ref b21)])) rfl rfl (hb hby at_120)
    have V26 : Arv Z h26 b21 ka21 (.object "java/lang/String") (1 : Int32) [(.ref la25)] .null := Arv.set Ar26 qa26 Sa26 Na26 Ha26 Ga26 rfl W26 0 rfl (Nat.le_of_ble_eq_true rfl)
    have F26_135 := F25_99.wr W26
    have F26_136 := F25_100.other W26 (Or.inl (Nat.ne_of_lt lt_r1_b21))
    have F26_137 := F25_101.other W26 (Or.inl (Nat.ne_of_lt lt_r1_b21))
    have F26_138 := F25_102.other W26 (Nat.ne_of_lt lt_t1_b21)
    have F26_139 := F25_103.wr W26
    have F26_140 := F25_104.other W26 (Or.inl (Nat.ne_of_lt lt_r3_b21))
    have F26_141 := F25_105.other W26 (Or.inl (Nat.ne_of_lt lt_r3_b21))
    have F26_142 := F25_106.other W26 (Nat.ne_of_lt lt_t3_b21)
    have F26_143 := F25_107.wr W26
    have F26_144 := F25_108.other W26 (Or.inl (Nat.ne_of_lt lt_r5_b21))
    have F26_145 := F25_109.other W26 (Or.inl (Nat.ne_of_lt lt_r5_b21))
    have F26_146 := F25_110.other W26 (Nat.ne_of_lt lt_t5_b21)
    have F26_147 := F25_112.wr W26
    have F26_148 := F25_113.other W26 (Or.inl na24)
    have F26_149 := F25_114.other W26 (Or.inl na24)
    have F26_150 := F25_115.other W26 (Or.inl na24)
    have F26_151 := F25_116.wr W26
    have F26_152 := F25_117.other W26 (Or.inl nb24)
    have F26_153 := F25_118.other W26 nc24
    have F26_154 := F25_119.wr W26
    have F26_155 := F25_120.other W26 (Or.inl (Nat.ne_of_gt lt_b21_rn24))
    have F26_156 := F25_121.other W26 (Or.inl (Nat.ne_of_gt lt_b21_rn24))
    have F26_157 := Ex25.wr W26
    have K26 : Keep h0 h26 [] := K25.wr W26 (Or.inr sz_b21)
    have Z26 : n0 ≤ h26.size := Nat.le_trans Z25 (Keep.of_wr W26).1
    have N26 := Fr.snoc X26 N24 ge_b21
    have O26 := O25.wr W26 (Nat.le_trans hz ge_b21)
    have hk := Nat.le_trans hk (Keep.of_wr W26).1
    refine Goes.via (next := T26.setTop (mkF m 121 #[si p1, si p2, si p3, si p4, si (1 : Int32), sr r1, sr r3, sr r5, sr b21, sr r24, .unset] [])) st26 ?_
    refine Goes.via (next := T26.setTop (mkF m 123 #[si p1, si p2, si p3, si p4, si (1 : Int32), sr r1, sr r3, sr r5, sr b21, sr r24, .unset] [(.ref r24)])) (fun t k => XS.aload X26.here hx rfl (hb hby at_121) rfl rfl k) ?_
    refine Goes.via (next := T26.setTop (mkF m 128 #[si p1, si p2, si p3, si p4, si (1 : Int32), sr r1, sr r3, sr r5, sr b21, sr r24, .unset] [])) (fun t k => XS.ifnonnullYes X26.here hx rfl (pc0 := 123) (pc' := 128) rfl (hb hby at_123) rfl (by decide) (by decide) k) ?_
    refine Goes.via (next := T26.setTop (mkF m 130 #[si p1, si p2, si p3, si p4, si (1 : Int32), sr r1, sr r3, sr r5, sr b21, sr r24, .unset] [(.ref r24)])) (fun t k => XS.aload X26.here hx rfl (hb hby at_128) rfl rfl k) ?_
    obtain ⟨Lw27, X27w, N27w⟩ := ownPack X26 N26
    obtain ⟨cq28, kq28, q28a, q28b, q28c⟩ := isOf hZ e26 F26_147
    obtain ⟨_, _, ⟨T28, L28, k28, n28⟩, -, X28, ⟨Lc28, hQ28, l28, y28, z28⟩, st28⟩ := X27w.virtualBack hx (y := (⟨"com/example/attributes_to_claims/attributestoclaims/cli/CommandArguments$Option", "names", "()Ljava/util/List;"⟩ : MethodName)) (z := (⟨"com/example/attributes_to_claims/attributestoclaims/cli/CommandArguments$Option", "names", "()Ljava/util/List;"⟩ : MethodName)) hown (mvT hZ (Wd hw 65 rfl)) (mvT hZ (Wd hw 66 rfl)) (notFace_of_selects (args := #[]) (mvT hZ (Wd hw 68 rfl))) (mvT hZ (Wd hw 68 rfl)) (mvT hZ (Wd hw 67 rfl)) (by decide) (backOf (W := 0) (rm12 l Z a0 hw [] r24 rn24 h26 n0 Z26 F26_148) hZ (Wd hw 69 rfl) (Wd hw 37 rfl) (by decide) (by decide)) q28a q28c (g := (mkF m 130 #[si p1, si p2, si p3, si p4, si (1 : Int32), sr r1, sr r3, sr r5, sr b21, sr r24, .unset] [(.ref r24)])) rfl (by rw [hml]; rfl) (Steps.refl _) (argsL := []) (rest := []) (lenOf pd_32 rfl) rfl (by show 2 * 0 + _ ≤ _; exact Nat.le_of_eq rfl) (hb hby at_130) (fun _ _ => ⟨rfl, e26, (by decide : 16 + 0 ≤ _), (by decide : 42 + 0 ≤ _)⟩)
    dsimp only [Pt.U, Pt.locs, Pt.cells, Pt.slots] at X28 l28 y28 z28 st28 hQ28
    subst l28 y28 z28
    obtain ⟨rfl, N28q, er28⟩ := hQ28
    have e28 : T28.heap = h26 := er28
    have N28 := Fr.app N27w N28q
    refine Goes.via (next := T28.setTop (mkF m 133 #[si p1, si p2, si p3, si p4, si (1 : Int32), sr r1, sr r3, sr r5, sr b21, sr r24, .unset] [(.ref rn24)])) (fun t k => st28.trans k) ?_
    refine Goes.via (next := T28.setTop (mkF m 137 #[si p1, si p2, si p3, si p4, si (1 : Int32), sr r1, sr r3, sr r5, sr b21, sr r24, sr rn24] [(.ref rn24)])) (fun t k => XS.astore X28.here hx rfl (hb hby at_133) rfl rfl (l' := #[si p1, si p2, si p3, si p4, si (1 : Int32), sr r1, sr r3, sr r5, sr b21, sr r24, sr rn24]) rfl (XS.aload X28.here hx rfl (hb hby at_135) rfl rfl k)) ?_
    obtain ⟨Lw29, X29w, N29w⟩ := ownPack X28 N28
    obtain ⟨cq30, kq30, q30a, q30b, q30c⟩ := isOf hZ e28 F26_154
    obtain ⟨_, _, ⟨T30, L30, k30, n30⟩, -, X30, ⟨Lc30, hQ30, l30, y30, z30⟩, st30⟩ := X29w.interfaceBack hx (xi := (⟨"java/util/List", "size", "()I"⟩ : MethodName)) (y := (⟨"java/util/ImmutableCollections$List12", "size", "()I"⟩ : MethodName)) hown (mvT hZ (Wd hw 70 rfl)) (mvT hZ (Wd hw 71 rfl)) (mvT hZ (Wd hw 72 rfl)) (mvT hZ (Wd hw 297 rfl)) (mvT hZ (Wd hw 298 rfl)) (mvT hZ (Wd hw 299 rfl)) (mvT hZ (Wd hw 300 rfl)) (mvT hZ (Wd hw 301 rfl)) (by decide) (backOf (W := 0) (rm51_1 l Z a0 hw [] rn24 w0 rE rL eL kL nZ h26 n0 Z26 F26_156 O26 hz St) hZ (Wd hw 302 rfl) (Wd hw 283 rfl) (by decide) (by decide)) q30a q30b q30c (g := (mkF m 137 #[si p1, si p2, si p3, si p4, si (1 : Int32), sr r1, sr r3, sr r5, sr b21, sr r24, sr rn24] [(.ref rn24)])) rfl (by rw [hml]; rfl) (Steps.refl _) (argsL := []) (rest := []) (lenOf pd_16 rfl) rfl (by show 2 * 0 + _ ≤ _; exact Nat.le_of_eq rfl) (hb hby at_137) (fun _ _ => ⟨rfl, e28, (by decide : 16 + 0 ≤ _), (by decide : 42 + 0 ≤ _)⟩)
    dsimp only [Pt.U, Pt.locs, Pt.cells, Pt.slots] at X30 l30 y30 z30 st30 hQ30
    subst l30 y30 z30
    obtain ⟨rfl, N30q, er30⟩ := hQ30
    have e30 : T30.heap = h26 := er30
    have N30 := Fr.app N29w N30q
    refine Goes.via (next := T30.setTop (mkF m 142 #[si p1, si p2, si p3, si p4, si (1 : Int32), sr r1, sr r3, sr r5, sr b21, sr r24, sr rn24] [(.int (1 : Int32))])) (fun t k => st30.trans k) ?_
    refine Goes.via (next := T30.setTop (mkF m 157 #[si p1, si p2, si p3, si p4, si (1 : Int32), sr r1, sr r3, sr r5, sr b21, sr r24, sr rn24] [(.ref rn24)])) (fun t k => XS.iload X30.here hx rfl (hb hby at_142) rfl (XS.icmpYes X30.here hx rfl (pc0 := 144) (pc' := 149) rfl (hb hby at_144) rfl (teq (show (1 : Int32) = (1 : Int32) from rfl)).1 (by decide) (by decide) (XS.iload X30.here hx rfl (hb hby at_149) rfl (XS.iconst X30.here hx rfl (hb hby at_151) (XS.icmpNo X30.here hx rfl (hb hby at_152) rfl (flt (show ¬ ((1 : Int32) < (1 : Int32)) from (by decide))).1 (XS.aload X30.here hx rfl (hb hby at_155) rfl rfl k)))))) ?_
    refine Goes.via (next := T30.setTop (mkF m 158 #[si p1, si p2, si p3, si p4, si (1 : Int32), sr r1, sr r3, sr r5, sr b21, sr r24, sr rn24] [(.int (0 : Int32)), (.ref rn24)])) (fun t k => XS.iconst X30.here hx rfl (hb hby at_157) k) ?_
    obtain ⟨Lw31, X31w, N31w⟩ := ownPack X30 N30
    obtain ⟨cq32, kq32, q32a, q32b, q32c⟩ := isOf hZ e30 F26_154
    obtain ⟨_, _, ⟨T32, L32, k32, n32⟩, -, X32, ⟨Lc32, hQ32, l32, y32, z32⟩, st32⟩ := X31w.interfaceBack hx (xi := (⟨"java/util/List", "get", "(I)Ljava/lang/Object;"⟩ : MethodName)) (y := (⟨"java/util/ImmutableCollections$List12", "get", "(I)Ljava/lang/Object;"⟩ : MethodName)) hown (mvT hZ (Wd hw 141 rfl)) (mvT hZ (Wd hw 142 rfl)) (mvT hZ (Wd hw 143 rfl)) (mvT hZ (Wd hw 304 rfl)) (mvT hZ (Wd hw 305 rfl)) (mvT hZ (Wd hw 306 rfl)) (mvT hZ (Wd hw 307 rfl)) (mvT hZ (Wd hw 301 rfl)) (by decide) (backOf (W := 0) (rm52_0 l Z a0 hw [] rn24 r1 h26 n0 Z26 F26_155) hZ (Wd hw 308 rfl) (Wd hw 283 rfl) (by decide) (by decide)) q32a q32b q32c (g := (mkF m 158 #[si p1, si p2, si p3, si p4, si (1 : Int32), sr r1, sr r3, sr r5, sr b21, sr r24, sr rn24] [(.int (0 : Int32)), (.ref rn24)])) rfl (by rw [hml]; rfl) (Steps.refl _) (argsL := [(.int (0 : Int32))]) (rest := []) (lenOf pd_28 rfl) rfl (by show 2 * 0 + _ ≤ _; exact Nat.le_of_eq rfl) (hb hby at_158) (fun _ _ => ⟨rfl, e30, (by decide : 16 + 0 ≤ _), (by decide : 42 + 0 ≤ _)⟩)
    dsimp only [Pt.U, Pt.locs, Pt.cells, Pt.slots] at X32 l32 y32 z32 st32 hQ32
    subst l32 y32 z32
    obtain ⟨rfl, N32q, er32⟩ := hQ32
    have e32 : T32.heap = h26 := er32
    have N32 := Fr.app N31w N32q
    refine Goes.via (next := T32.setTop (mkF m 163 #[si p1, si p2, si p3, si p4, si (1 : Int32), sr r1, sr r3, sr r5, sr b21, sr r24, sr rn24] [(.ref r1)])) (fun t k => st32.trans k) ?_
    obtain ⟨T33, X33, e33, st33⟩ := castY X32 hx hZ hown (Wd hw 4 rfl) e32 (Ins.self F26_135) (g := (mkF m 163 #[si p1, si p2, si p3, si p4, si (1 : Int32), sr r1, sr r3, sr r5, sr b21, sr r24, sr rn24] [(.ref r1)])) rfl rfl (hb hby at_163)
    refine Goes.via (next := T33.setTop (mkF m 166 #[si p1, si p2, si p3, si p4, si (1 : Int32), sr r1, sr r3, sr r5, sr b21, sr r24, sr rn24] [(.ref r1)])) st33 ?_
    refine Goes.via (next := T33.setTop (mkF m 168 #[si p1, si p2, si p3, si p4, si (1 : Int32), sr r1, sr r3, sr r5, sr b21, sr r24, sr rn24] [(.ref r1), (.ref r1)])) (fun t k => XS.aload X33.here hx rfl (hb hby at_166) rfl rfl k) ?_
    obtain ⟨Lw34, X34w, N34w⟩ := ownPack X33 N32
    obtain ⟨cq35, kq35, q35a, q35b, q35c⟩ := isOf hZ e33 F26_135
    obtain ⟨_, _, ⟨T35, L35, k35, n35⟩, -, X35, ⟨Lc35, hQ35, l35, y35, z35⟩, st35⟩ := X34w.virtualBack hx (y := (⟨"java/lang/String", "equals", "(Ljava/lang/Object;)Z"⟩ : MethodName)) (z := (⟨"java/lang/String", "equals", "(Ljava/lang/Object;)Z"⟩ : MethodName)) hown (mvT hZ (Wd hw 149 rfl)) (mvT hZ (Wd hw 150 rfl)) (notFace_of_selects (args := #[]) (mvT hZ (Wd hw 152 rfl))) (mvT hZ (Wd hw 152 rfl)) (mvT hZ (Wd hw 151 rfl)) (by decide) (backOf (W := 0) (rm25_s l Z a0 hw [] r1  h26 n0 Z26 ) hZ (Wd hw 153 rfl) (Wd hw 6 rfl) (by decide) (by decide)) q35a q35c (g := (mkF m 168 #[si p1, si p2, si p3, si p4, si (1 : Int32), sr r1, sr r3, sr r5, sr b21, sr r24, sr rn24] [(.ref r1), (.ref r1)])) rfl (by rw [hml]; rfl) (Steps.refl _) (argsL := [(.ref r1)]) (rest := []) (lenOf pd_33 rfl) rfl (by show 2 * 0 + _ ≤ _; exact Nat.le_of_eq rfl) (hb hby at_168) (fun _ _ => ⟨rfl, e33, (by decide : 16 + 0 ≤ _), (by decide : 42 + 0 ≤ _)⟩)
    dsimp only [Pt.U, Pt.locs, Pt.cells, Pt.slots] at X35 l35 y35 z35 st35 hQ35
    subst l35 y35 z35
    obtain ⟨rfl, N35q, er35⟩ := hQ35
    have e35 : T35.heap = h26 := er35
    have N35 := Fr.app N34w N35q
    refine Goes.via (next := T35.setTop (mkF m 171 #[si p1, si p2, si p3, si p4, si (1 : Int32), sr r1, sr r3, sr r5, sr b21, sr r24, sr rn24] [(.int (1 : Int32))])) (fun t k => st35.trans k) ?_
    refine Goes.via (next := T35.setTop (mkF m 176 #[si p1, si p2, si p3, si p4, si (1 : Int32), sr r1, sr r3, sr r5, sr b21, sr r24, sr rn24] [])) (fun t k => XS.ifYes X35.here hx rfl (pc0 := 171) (pc' := 176) rfl (hb hby at_171) rfl ((if0 _ _).trans (feq (show ¬ ((1 : Int32) = (0 : Int32)) from (by decide))).2) (by decide) (by decide) k) ?_
    refine Goes.via (next := T35.setTop (mkF m 230 #[si p1, si p2, si p3, si p4, si (1 : Int32), sr r1, sr r3, sr r5, sr b21, sr r24, sr rn24] [])) (fun t k => XS.iload X35.here hx rfl (hb hby at_176) rfl (XS.iconst X35.here hx rfl (hb hby at_178) (XS.icmpYes X35.here hx rfl (pc0 := 179) (pc' := 203) rfl (hb hby at_179) rfl (tlt (show (1 : Int32) < (2 : Int32) from (by decide))).1 (by decide) (by decide) (XS.iload X35.here hx rfl (hb hby at_203) rfl (XS.iconst X35.here hx rfl (hb hby at_205) (XS.icmpYes X35.here hx rfl (pc0 := 206) (pc' := 230) rfl (hb hby at_206) rfl (tlt (show (1 : Int32) < (3 : Int32) from (by decide))).1 (by decide) (by decide) k)))))) ?_
    refine Goes.via (next := T35.setTop (mkF m 232 #[si p1, si p2, si p3, si p4, si (1 : Int32), sr r1, sr r3, sr r5, sr b21, sr r24, sr rn24] [(.ref r24)])) (fun t k => XS.aload X35.here hx rfl (hb hby at_230) rfl rfl k) ?_
    obtain ⟨Lw36, X36w, N36w⟩ := ownPack X35 N35
    obtain ⟨cq37, kq37, q37a, q37b, q37c⟩ := isOf hZ e35 F26_147
    obtain ⟨_, _, ⟨T37, L37, k37, n37⟩, -, X37, ⟨Lc37, hQ37, l37, y37, z37⟩, st37⟩ := X36w.virtualBack hx (y := (⟨"com/example/attributes_to_claims/attributestoclaims/cli/CommandArguments$Option", "label", "()Ljava/lang/String;"⟩ : MethodName)) (z := (⟨"com/example/attributes_to_claims/attributestoclaims/cli/CommandArguments$Option", "label", "()Ljava/lang/String;"⟩ : MethodName)) hown (mvT hZ (Wd hw 82 rfl)) (mvT hZ (Wd hw 83 rfl)) (notFace_of_selects (args := #[]) (mvT hZ (Wd hw 85 rfl))) (mvT hZ (Wd hw 85 rfl)) (mvT hZ (Wd hw 84 rfl)) (by decide) (backOf (W := 0) (rm14 l Z a0 hw [] r24 lv24 h26 n0 Z26 F26_149) hZ (Wd hw 86 rfl) (Wd hw 37 rfl) (by decide) (by decide)) q37a q37c (g := (mkF m 232 #[si p1, si p2, si p3, si p4, si (1 : Int32), sr r1, sr r3, sr r5, sr b21, sr r24, sr rn24] [(.ref r24)])) rfl (by rw [hml]; rfl) (Steps.refl _) (argsL := []) (rest := []) (lenOf pd_29 rfl) rfl (by show 2 * 0 + _ ≤ _; exact Nat.le_of_eq rfl) (hb hby at_232) (fun _ _ => ⟨rfl, e35, (by decide : 16 + 0 ≤ _), (by decide : 42 + 0 ≤ _)⟩)
    dsimp only [Pt.U, Pt.locs, Pt.cells, Pt.slots] at X37 l37 y37 z37 st37 hQ37
    subst l37 y37 z37
    obtain ⟨rfl, N37q, er37⟩ := hQ37
    have e37 : T37.heap = h26 := er37
    have N37 := Fr.app N36w N37q
    refine Goes.via (next := T37.setTop (mkF m 235 #[si p1, si p2, si p3, si p4, si (1 : Int32), sr r1, sr r3, sr r5, sr b21, sr r24, sr rn24] [(.ref lv24)])) (fun t k => st37.trans k) ?_
    obtain ⟨Lw38, X38w, N38w⟩ := ownPack X37 N37
    obtain ⟨cq39, kq39, q39a, q39b, q39c⟩ := isOf hZ e37 F26_151
    obtain ⟨_, _, ⟨T39, L39, k39, n39⟩, -, X39, ⟨Lc39, hQ39, l39, y39, z39⟩, st39⟩ := X38w.virtualBack hx (y := (⟨"java/lang/String", "isEmpty", "()Z"⟩ : MethodName)) (z := (⟨"java/lang/String", "isEmpty", "()Z"⟩ : MethodName)) hown (mvT hZ (Wd hw 87 rfl)) (mvT hZ (Wd hw 88 rfl)) (notFace_of_selects (args := #[]) (mvT hZ (Wd hw 90 rfl))) (mvT hZ (Wd hw 90 rfl)) (mvT hZ (Wd hw 89 rfl)) (by decide) (backOf (W := 0) (rm15 l Z a0 hw [] lv24 t24 kt24 h26 n0 Z26 F26_152 F26_153) hZ (Wd hw 91 rfl) (Wd hw 6 rfl) (by decide) (by decide)) q39a q39c (g := (mkF m 235 #[si p1, si p2, si p3, si p4, si (1 : Int32), sr r1, sr r3, sr r5, sr b21, sr r24, sr rn24] [(.ref lv24)])) rfl (by rw [hml]; rfl) (Steps.refl _) (argsL := []) (rest := []) (lenOf pd_23 rfl) rfl (by show 2 * 0 + _ ≤ _; exact Nat.le_of_eq rfl) (hb hby at_235) (fun _ _ => ⟨rfl, e37, (by decide : 16 + 0 ≤ _), (by decide : 42 + 0 ≤ _)⟩)
    dsimp only [Pt.U, Pt.locs, Pt.cells, Pt.slots] at X39 l39 y39 z39 st39 hQ39
    subst l39 y39 z39
    obtain ⟨rfl, N39q, er39⟩ := hQ39
    have e39 : T39.heap = h26 := er39
    have N39 := Fr.app N38w N39q
    refine Goes.via (next := T39.setTop (mkF m 238 #[si p1, si p2, si p3, si p4, si (1 : Int32), sr r1, sr r3, sr r5, sr b21, sr r24, sr rn24] [(.int (1 : Int32))])) (fun t k => st39.trans k) ?_
    refine Goes.via (next := T39.setTop (mkF m 243 #[si p1, si p2, si p3, si p4, si (1 : Int32), sr r1, sr r3, sr r5, sr b21, sr r24, sr rn24] [])) (fun t k => XS.ifYes X39.here hx rfl (pc0 := 238) (pc' := 243) rfl (hb hby at_238) rfl ((if0 _ _).trans (feq (show ¬ ((1 : Int32) = (0 : Int32)) from (by decide))).2) (by decide) (by decide) k) ?_
    refine Goes.via (next := T39.setTop (mkF m 245 #[si p1, si p2, si p3, si p4, si (1 : Int32), sr r1, sr r3, sr r5, sr b21, sr r24, sr rn24] [(.ref r24)])) (fun t k => XS.aload X39.here hx rfl (hb hby at_243) rfl rfl k) ?_
    obtain ⟨Lw40, X40w, N40w⟩ := ownPack X39 N39
    obtain ⟨cq41, kq41, q41a, q41b, q41c⟩ := isOf hZ e39 F26_147
    obtain ⟨_, _, ⟨T41, L41, k41, n41⟩, -, X41, ⟨Lc41, hQ41, l41, y41, z41⟩, st41⟩ := X40w.virtualBack hx (y := (⟨"com/example/attributes_to_claims/attributestoclaims/cli/CommandArguments$Option", "repeatable", "()Z"⟩ : MethodName)) (z := (⟨"com/example/attributes_to_claims/attributestoclaims/cli/CommandArguments$Option", "repeatable", "()Z"⟩ : MethodName)) hown (mvT hZ (Wd hw 92 rfl)) (mvT hZ (Wd hw 93 rfl)) (notFace_of_selects (args := #[]) (mvT hZ (Wd hw 95 rfl))) (mvT hZ (Wd hw 95 rfl)) (mvT hZ (Wd hw 94 rfl)) (by decide) (backOf (W := 0) (rm16 l Z a0 hw [] r24  h26 n0 Z26 F26_150) hZ (Wd hw 96 rfl) (Wd hw 37 rfl) (by decide) (by decide)) q41a q41c (g := (mkF m 245 #[si p1, si p2, si p3, si p4, si (1 : Int32), sr r1, sr r3, sr r5, sr b21, sr r24, sr rn24] [(.ref r24)])) rfl (by rw [hml]; rfl) (Steps.refl _) (argsL := []) (rest := []) (lenOf pd_23 rfl) rfl (by show 2 * 0 + _ ≤ _; exact Nat.le_of_eq rfl) (hb hby at_245) (fun _ _ => ⟨rfl, e39, (by decide : 16 + 0 ≤ _), (by decide : 42 + 0 ≤ _)⟩)
    dsimp only [Pt.U, Pt.locs, Pt.cells, Pt.slots] at X41 l41 y41 z41 st41 hQ41
    subst l41 y41 z41
    obtain ⟨rfl, N41q, er41⟩ := hQ41
    have e41 : T41.heap = h26 := er41
    have N41 := Fr.app N40w N41q
    refine Goes.via (next := T41.setTop (mkF m 248 #[si p1, si p2, si p3, si p4, si (1 : Int32), sr r1, sr r3, sr r5, sr b21, sr r24, sr rn24] [(.int (0 : Int32))])) (fun t k => st41.trans k) ?_
    refine Goes.via (next := T41.setTop (mkF m 253 #[si p1, si p2, si p3, si p4, si (1 : Int32), sr r1, sr r3, sr r5, sr b21, sr r24, sr rn24] [])) (fun t k => XS.ifYes X41.here hx rfl (pc0 := 248) (pc' := 253) rfl (hb hby at_248) rfl ((if0 _ _).trans (teq (show (0 : Int32) = (0 : Int32) from rfl)).1) (by decide) (by decide) k) ?_
    refine Goes.via (next := T41.setTop (mkF m 255 #[si p1, si p2, si p3, si p4, si (1 : Int32), sr r1, sr r3, sr r5, sr b21, sr r24, sr rn24] [(.ref r24)])) (fun t k => XS.aload X41.here hx rfl (hb hby at_253) rfl rfl k) ?_
    obtain ⟨Lw42, X42w, N42w⟩ := ownPack X41 N41
    obtain ⟨cq43, kq43, q43a, q43b, q43c⟩ := isOf hZ e41 F26_147
    obtain ⟨_, _, ⟨T43, L43, k43, n43⟩, -, X43, ⟨Lc43, hQ43, l43, y43, z43⟩, st43⟩ := X42w.virtualBack hx (y := (⟨"com/example/attributes_to_claims/attributestoclaims/cli/CommandArguments$Option", "isFlag", "()Z"⟩ : MethodName)) (z := (⟨"com/example/attributes_to_claims/attributestoclaims/cli/CommandArguments$Option", "isFlag", "()Z"⟩ : MethodName)) hown (mvT hZ (Wd hw 97 rfl)) (mvT hZ (Wd hw 98 rfl)) (notFace_of_selects (args := #[]) (mvT hZ (Wd hw 100 rfl))) (mvT hZ (Wd hw 100 rfl)) (mvT hZ (Wd hw 99 rfl)) (by decide) (backOf (W := 0) (rm17 l Z a0 hw [] r24 lv24 t24 kt24 h26 n0 Z26 F26_149 F26_151 F26_152 F26_153) hZ (Wd hw 101 rfl) (Wd hw 37 rfl) (by decide) (by decide)) q43a q43c (g := (mkF m 255 #[si p1, si p2, si p3, si p4, si (1 : Int32), sr r1, sr r3, sr r5, sr b21, sr r24, sr rn24] [(.ref r24)])) rfl (by rw [hml]; rfl) (Steps.refl _) (argsL := []) (rest := []) (lenOf pd_23 rfl) rfl (by show 2 * 0 + _ ≤ _; exact Nat.le_of_eq rfl) (hb hby at_255) (fun _ _ => ⟨rfl, e41, (by decide : 16 + 0 ≤ _), (by decide : 42 + 0 ≤ _)⟩)
    dsimp only [Pt.U, Pt.locs, Pt.cells, Pt.slots] at X43 l43 y43 z43 st43 hQ43
    subst l43 y43 z43
    obtain ⟨rfl, N43q, er43⟩ := hQ43
    have e43 : T43.heap = h26 := er43
    have N43 := Fr.app N42w N43q
    refine Goes.via (next := T43.setTop (mkF m 258 #[si p1, si p2, si p3, si p4, si (1 : Int32), sr r1, sr r3, sr r5, sr b21, sr r24, sr rn24] [(.int (1 : Int32))])) (fun t k => st43.trans k) ?_
    refine Goes.via (next := T43.setTop (mkF m 263 #[si p1, si p2, si p3, si p4, si (1 : Int32), sr r1, sr r3, sr r5, sr b21, sr r24, sr rn24] [])) (fun t k => XS.ifYes X43.here hx rfl (pc0 := 258) (pc' := 263) rfl (hb hby at_258) rfl ((if0 _ _).trans (feq (show ¬ ((1 : Int32) = (0 : Int32)) from (by decide))).2) (by decide) (by decide) k) ?_
    refine Goes.via (next := T43.setTop (mkF m 271 #[si p1, si p2, si p3, si p4, si (1 : Int32), sr r1, sr r3, sr r5, sr b21, sr r24, sr rn24] [(.ref r24)])) (fun t k => XS.iload X43.here hx rfl (hb hby at_263) rfl (XS.iconst X43.here hx rfl (hb hby at_265) (XS.icmpNo X43.here hx rfl (hb hby at_266) rfl (flt (show ¬ ((1 : Int32) < (1 : Int32)) from (by decide))).1 (XS.aload X43.here hx rfl (hb hby at_269) rfl rfl k)))) ?_
    obtain ⟨Lw44, X44w, N44w⟩ := ownPack X43 N43
    obtain ⟨cq45, kq45, q45a, q45b, q45c⟩ := isOf hZ e43 F26_147
    obtain ⟨_, _, ⟨T45, L45, k45, n45⟩, -, X45, S45, sg45, ⟨Lc45, hQ45, l45, y45, z45⟩, st45⟩ := X44w.virtualBackS hx (y := (⟨"com/example/attributes_to_claims/attributestoclaims/cli/CommandArguments$Option", "quoted", "()Ljava/lang/String;"⟩ : MethodName)) (z := (⟨"com/example/attributes_to_claims/attributestoclaims/cli/CommandArguments$Option", "quoted", "()Ljava/lang/String;"⟩ : MethodName)) hown (mvT hZ (Wd hw 154 rfl)) (mvT hZ (Wd hw 155 rfl)) (notFace_of_selects (args := #[]) (mvT hZ (Wd hw 157 rfl))) (mvT hZ (Wd hw 157 rfl)) (mvT hZ (Wd hw 156 rfl)) (by decide) (ownBackS (W := 0) (I := fun vm => IB Z vm ["x", ""]) (rm26_p l Z a0 hw [] r24 lv24 t24 kt24 rn24 r1 t1 kt1 (own_b0 p2) (own_b1 p2) w0 rE rL eL kL nZ h26 h26.size (Nat.le_refl _) F26_147 F26_148 F26_149 F26_151 F26_152 F26_153 F26_154 F26_155 F26_135 F26_136 F26_137 F26_138 O26 (Nat.le_trans hz Z26) St rfl hcQ hcw) hZ (fun vm q => hI.warm q) (Wd hw 158 rfl) (Wd hw 37 rfl) (by decide) (by decide)) q45a q45c (g := (mkF m 271 #[si p1, si p2, si p3, si p4, si (1 : Int32), sr r1, sr r3, sr r5, sr b21, sr r24, sr rn24] [(.ref r24)])) rfl (by rw [hml]; rfl) (Steps.refl _) (argsL := []) (rest := []) (lenOf pd_29 rfl) rfl (by show 2 * 0 + _ ≤ _; exact Nat.le_of_eq rfl) (hb hby at_271) (fun _ _ => ⟨rfl, e43, (by decide : 16 + 6 ≤ _), (by decide : 42 + 36 ≤ _)⟩)
    dsimp only [Pt.U, Pt.locs, Pt.cells, Pt.slots] at X45 l45 y45 z45 st45 hQ45 S45 sg45
    subst l45 y45 z45
    obtain ⟨X45f, hS45, hZ45, hown45⟩ := rebS hS hk X45 S45 (by rw [← e43]; exact sg45) hZ hown
    have X45 := X45f
    have hS := hS45
    have hZ := hZ45
    have hown := hown45
    have hk : T45.heap.size ≤ T45.heap.size := Nat.le_refl _
    obtain ⟨r45, t45, kt45, rfl, N45q, gr45, zr45, Kc45, Ec45, Cc45, Vq45, Vc45⟩ := hQ45
    have N45q : Fr n0 _ := fun y q => Nat.le_trans Z26 (N45q y q)
    have gr45 : n0 ≤ r45 := Nat.le_trans Z26 gr45
    have lt_r1_r45 : r1 < r45 := Nat.lt_of_lt_of_le F26_135.lt zr45
    have lt_t1_r45 : t1 < r45 := Nat.lt_of_lt_of_le F26_138.lt zr45
    have lt_r3_r45 : r3 < r45 := Nat.lt_of_lt_of_le F26_139.lt zr45
    have lt_t3_r45 : t3 < r45 := Nat.lt_of_lt_of_le F26_142.lt zr45
    have lt_r5_r45 : r5 < r45 := Nat.lt_of_lt_of_le F26_143.lt zr45
    have lt_t5_r45 : t5 < r45 := Nat.lt_of_lt_of_le F26_146.lt zr45
    have lt_r24_r45 : r24 < r45 := Nat.lt_of_lt_of_le F26_147.lt zr45
    have lt_lv24_r45 : lv24 < r45 := Nat.lt_of_lt_of_le F26_151.lt zr45
    have lt_t24_r45 : t24 < r45 := Nat.lt_of_lt_of_le F26_153.lt zr45
    have lt_rn24_r45 : rn24 < r45 := Nat.lt_of_lt_of_le F26_154.lt zr45
    have lt_la25_r45 : la25 < r45 := Nat.lt_of_lt_of_le F26_157.lt zr45
    have lt_b21_r45 : b21 < r45 := Nat.lt_of_lt_of_le V26.lt zr45
    have sz_r45 : h0.size ≤ r45 := Nat.le_trans K26.1 zr45
    have F45_281 := F26_135.keep Kc45
    have F45_282 := F26_136.keep Kc45 List.not_mem_nil
    have F45_283 := F26_137.keep Kc45 List.not_mem_nil
    have F45_284 := F26_138.keep Kc45 List.not_mem_nil
    have F45_285 := F26_139.keep Kc45
    have F45_286 := F26_140.keep Kc45 List.not_mem_nil
    have F45_287 := F26_141.keep Kc45 List.not_mem_nil
    have F45_288 := F26_142.keep Kc45 List.not_mem_nil
    have F45_289 := F26_143.keep Kc45
    have F45_290 := F26_144.keep Kc45 List.not_mem_nil
    have F45_291 := F26_145.keep Kc45 List.not_mem_nil
    have F45_292 := F26_146.keep Kc45 List.not_mem_nil
    have F45_293 := F26_147.keep Kc45
    have F45_294 := F26_148.keep Kc45 List.not_mem_nil
    have F45_295 := F26_149.keep Kc45 List.not_mem_nil
    have F45_296 := F26_150.keep Kc45 List.not_mem_nil
    have F45_297 := F26_151.keep Kc45
    have F45_298 := F26_152.keep Kc45 List.not_mem_nil
    have F45_299 := F26_153.keep Kc45 List.not_mem_nil
    have F45_300 := F26_154.keep Kc45
    have F45_301 := F26_155.keep Kc45 List.not_mem_nil
    have F45_302 := F26_156.keep Kc45 List.not_mem_nil
    have F45_303 := F26_157.keep Kc45
    have F45_304 := V26.keep Kc45 List.not_mem_nil
    have K45 : Keep h0 T45.heap [] := K26.trans Kc45 (fun x hx => nomatch hx)
    have Z45 : n0 ≤ T45.heap.size := Nat.le_trans Z26 Kc45.1
    have O45 := O26.keep Kc45 (fun x hx => nomatch hx)
    have N45 := Fr.app N44w N45q
    refine Goes.via (next := T45.setTop (mkF m 274 #[si p1, si p2, si p3, si p4, si (1 : Int32), sr r1, sr r3, sr r5, sr b21, sr r24, sr rn24] [(.ref r45)])) (fun t k => st45.trans k) ?_
    refine Goes.via (next := T45.setTop (mkF m 275 #[si p1, si p2, si p3, si p4, si (1 : Int32), sr r1, sr r3, sr r5, sr b21, sr r24, sr rn24] [(.int p2), (.ref r45)])) (fun t k => XS.iloadN X45.here hx rfl (hb hby at_274) rfl k) ?_
    obtain ⟨Lw46, X46w, N46w⟩ := ownPack X45 N45
    obtain ⟨_, _, ⟨T47, L47, k47, n47⟩, -, X47, ⟨Lc47, hQ47, l47, y47, z47⟩, st47⟩ := Jvm.LawKit.callS X46w hx (y := (⟨"com/example/attributes_to_claims/attributestoclaims/cli/OptionFlagPinLaw", "quotedOf", "(I)Ljava/lang/String;"⟩ : MethodName)) hown (mvT hZ (Wd hw 273 rfl)) (mvT hZ (Wd hw 274 rfl)) (mvT hZ (Wd hw 2 rfl)) (mvT hZ (Wd hw 275 rfl)) (by decide) (backOf (W := 1) (rm48 l Z a0 hw [] p2 w0 rE rL eL kL nZ T45.heap n0 Z45 O45 hz St) hZ (Wd hw 275 rfl) (Wd hw 2 rfl) (by decide) (by decide)) (g := (mkF m 275 #[si p1, si p2, si p3, si p4, si (1 : Int32), sr r1, sr r3, sr r5, sr b21, sr r24, sr rn24] [(.int p2), (.ref r45)])) rfl (by rw [hml]; rfl) (argsL := [(.int p2)]) (rest := [(.ref r45)]) (lenOf pd_30 rfl) rfl (by show 2 * 0 + _ ≤ _; exact Nat.le_of_eq rfl) (hb hby at_275) (fun _ _ => ⟨rfl, rfl, (by decide : 22 + 3 ≤ _), (by decide : 78 + 12 ≤ _)⟩)
    dsimp only [Pt.U, Pt.locs, Pt.cells, Pt.slots] at X47 l47 y47 z47 st47 hQ47
    subst l47 y47 z47
    obtain ⟨r47, t47, kt47, rfl, N47q, gr47, zr47, Kc47, Ec47, Cc47, Vq47, Vc47⟩ := hQ47
    have lt_r1_r47 : r1 < r47 := Nat.lt_of_lt_of_le F45_281.lt zr47
    have lt_t1_r47 : t1 < r47 := Nat.lt_of_lt_of_le F45_284.lt zr47
    have lt_r3_r47 : r3 < r47 := Nat.lt_of_lt_of_le F45_285.lt zr47
    have lt_t3_r47 : t3 < r47 := Nat.lt_of_lt_of_le F45_288.lt zr47
    have lt_r5_r47 : r5 < r47 := Nat.lt_of_lt_of_le F45_289.lt zr47
    have lt_t5_r47 : t5 < r47 := Nat.lt_of_lt_of_le F45_292.lt zr47
    have lt_r24_r47 : r24 < r47 := Nat.lt_of_lt_of_le F45_293.lt zr47
    have lt_lv24_r47 : lv24 < r47 := Nat.lt_of_lt_of_le F45_297.lt zr47
    have lt_t24_r47 : t24 < r47 := Nat.lt_of_lt_of_le F45_299.lt zr47
    have lt_rn24_r47 : rn24 < r47 := Nat.lt_of_lt_of_le F45_300.lt zr47
    have lt_la25_r47 : la25 < r47 := Nat.lt_of_lt_of_le F45_303.lt zr47
    have lt_b21_r47 : b21 < r47 := Nat.lt_of_lt_of_le F45_304.lt zr47
    have lt_r45_r47 : r45 < r47 := Nat.lt_of_lt_of_le Ec45.lt zr47
    have lt_t45_r47 : t45 < r47 := Nat.lt_of_lt_of_le Vc45.lt zr47
    have sz_r47 : h0.size ≤ r47 := Nat.le_trans K45.1 zr47
    have F47_331 := F45_281.keep Kc47
    have F47_332 := F45_282.keep Kc47 List.not_mem_nil
    have F47_333 := F45_283.keep Kc47 List.not_mem_nil
    have F47_334 := F45_284.keep Kc47 List.not_mem_nil
    have F47_335 := F45_285.keep Kc47
    have F47_336 := F45_286.keep Kc47 List.not_mem_nil
    have F47_337 := F45_287.keep Kc47 List.not_mem_nil
    have F47_338 := F45_288.keep Kc47 List.not_mem_nil
    have F47_339 := F45_289.keep Kc47
    have F47_340 := F45_290.keep Kc47 List.not_mem_nil
    have F47_341 := F45_291.keep Kc47 List.not_mem_nil
    have F47_342 := F45_292.keep Kc47 List.not_mem_nil
    have F47_343 := F45_293.keep Kc47
    have F47_344 := F45_294.keep Kc47 List.not_mem_nil
    have F47_345 := F45_295.keep Kc47 List.not_mem_nil
    have F47_346 := F45_296.keep Kc47 List.not_mem_nil
    have F47_347 := F45_297.keep Kc47
    have F47_348 := F45_298.keep Kc47 List.not_mem_nil
    have F47_349 := F45_299.keep Kc47 List.not_mem_nil
    have F47_350 := F45_300.keep Kc47
    have F47_351 := F45_301.keep Kc47 List.not_mem_nil
    have F47_352 := F45_302.keep Kc47 List.not_mem_nil
    have F47_353 := F45_303.keep Kc47
    have F47_354 := F45_304.keep Kc47 List.not_mem_nil
    have F47_355 := Ec45.keep Kc47
    have F47_356 := Cc45.keep Kc47 List.not_mem_nil
    have F47_357 := Vq45.keep Kc47 List.not_mem_nil
    have F47_358 := Vc45.keep Kc47 List.not_mem_nil
    have K47 : Keep h0 T47.heap [] := K45.trans Kc47 (fun x hx => nomatch hx)
    have Z47 : n0 ≤ T47.heap.size := Nat.le_trans Z45 Kc47.1
    have O47 := O45.keep Kc47 (fun x hx => nomatch hx)
    have hk := Nat.le_trans hk Kc47.1
    have N47 := Fr.app N46w N47q
    refine Goes.via (next := T47.setTop (mkF m 278 #[si p1, si p2, si p3, si p4, si (1 : Int32), sr r1, sr r3, sr r5, sr b21, sr r24, sr rn24] [(.ref r47), (.ref r45)])) st47 ?_
    obtain ⟨Lw48, X48w, N48w⟩ := ownPack X47 N47
    obtain ⟨cq49, kq49, q49a, q49b, q49c⟩ := isOf hZ rfl F47_355
    obtain ⟨_, _, ⟨T49, L49, k49, n49⟩, -, X49, ⟨Lc49, hQ49, l49, y49, z49⟩, st49⟩ := X48w.virtualBack hx (y := (⟨"java/lang/String", "equals", "(Ljava/lang/Object;)Z"⟩ : MethodName)) (z := (⟨"java/lang/String", "equals", "(Ljava/lang/Object;)Z"⟩ : MethodName)) hown (mvT hZ (Wd hw 149 rfl)) (mvT hZ (Wd hw 150 rfl)) (notFace_of_selects (args := #[]) (mvT hZ (Wd hw 152 rfl))) (mvT hZ (Wd hw 152 rfl)) (mvT hZ (Wd hw 151 rfl)) (by decide) (backOf (W := 0) (rm25_c l Z a0 hw [] r45 r47 t45 t47 kt45 kt47 (39 : Int32) (own_b0 p2) (own_b1 p2) (39 : Int32) w0 rE rL eL kL nZ T47.heap n0 Z47 F47_355 F47_356 F47_357 F47_358 Ec47 Cc47 Vq47 Vc47 (Nat.ne_of_lt lt_r45_r47) O47 hz St) hZ (Wd hw 153 rfl) (Wd hw 6 rfl) (by decide) (by decide)) q49a q49c (g := (mkF m 278 #[si p1, si p2, si p3, si p4, si (1 : Int32), sr r1, sr r3, sr r5, sr b21, sr r24, sr rn24] [(.ref r47), (.ref r45)])) rfl (by rw [hml]; rfl) (Steps.refl _) (argsL := [(.ref r47)]) (rest := []) (lenOf pd_33 rfl) rfl (by show 2 * 0 + _ ≤ _; exact Nat.le_of_eq rfl) (hb hby at_278) (fun _ _ => ⟨rfl, rfl, (by decide : 25 + 0 ≤ _), (by decide : 90 + 0 ≤ _)⟩)
    dsimp only [Pt.U, Pt.locs, Pt.cells, Pt.slots] at X49 l49 y49 z49 st49 hQ49
    subst l49 y49 z49
    obtain ⟨rfl, N49q, er49⟩ := hQ49
    have e49 : T49.heap = T47.heap := er49
    have N49 := Fr.app N48w N49q
    refine Goes.via (next := T49.setTop (mkF m 281 #[si p1, si p2, si p3, si p4, si (1 : Int32), sr r1, sr r3, sr r5, sr b21, sr r24, sr rn24] [(.int (1 : Int32))])) (fun t k => st49.trans k) ?_
    refine Goes.via (next := T49.setTop (mkF m 286 #[si p1, si p2, si p3, si p4, si (1 : Int32), sr r1, sr r3, sr r5, sr b21, sr r24, sr rn24] [])) (fun t k => XS.ifYes X49.here hx rfl (pc0 := 281) (pc' := 286) rfl (hb hby at_281) rfl ((if0 _ _).trans (feq (show ¬ ((1 : Int32) = (0 : Int32)) from (by decide))).2) (by decide) (by decide) k) ?_
    refine Goes.via (next := T49.setTop (mkF m 287 #[si p1, si p2, si p3, si p4, si (1 : Int32), sr r1, sr r3, sr r5, sr b21, sr r24, sr rn24] [(.int (1 : Int32))])) (fun t k => XS.iconst X49.here hx rfl (hb hby at_286) k) ?_
    obtain ⟨fs, hr, hrun, hended, hRE⟩ := X49.leaveW hS (by rw [e49]; exact hk) (v := some (.int (1 : Int32))) (fun h => by rw [Bd.returns] at h; cases h)
    refine ⟨_, _, ?_, hrun, hended, _, _, rfl, ?_, hRE.1, hRE.2.1, hRE.2.2.1, hRE.2.2.2.mono (by decide) (by decide)⟩
    · exact retN X49 hx (t := .boolean) Bd.returns (by simp) (hb hby at_287) hr
    · show Q0 Z  h0 n0 _ T49.heap _ _
      rw [e49]
      exact ⟨rfl, N49⟩
  · rw [hl]
    show Goes p e below (T5.setTop (mkF m 25 #[si p1, si p2, si p3, si p4, si (2 : Int32), sr r1, sr r3, sr r5, .unset, .unset, .unset] [(.int (2 : Int32))])) _
    refine Goes.via (next := T5.setTop (mkF m 37 #[si p1, si p2, si p3, si p4, si (2 : Int32), sr r1, sr r3, sr r5, .unset, .unset, .unset] [])) (fun t k => XS.ifYes X5.here hx rfl (pc0 := 25) (pc' := 37) rfl (hb hby at_25) rfl ((if0 _ _).trans (feq (show ¬ ((2 : Int32) = (0 : Int32)) from (by decide))).2) (by decide) (by decide) k) ?_
    refine Goes.via (next := T5.setTop (mkF m 63 #[si p1, si p2, si p3, si p4, si (2 : Int32), sr r1, sr r3, sr r5, .unset, .unset, .unset] [])) (fun t k => XS.iload X5.here hx rfl (hb hby at_37) rfl (XS.iconst X5.here hx rfl (hb hby at_39) (XS.icmpYes X5.here hx rfl (pc0 := 40) (pc' := 57) rfl (hb hby at_40) rfl (feq (show ¬ ((2 : Int32) = (1 : Int32)) from (by decide))).2 (by decide) (by decide) (XS.iload X5.here hx rfl (hb hby at_57) rfl (XS.iconst X5.here hx rfl (hb hby at_59) (XS.icmpNo X5.here hx rfl (hb hby at_60) rfl (teq (show (2 : Int32) = (2 : Int32) from rfl)).2 k)))))) ?_
    refine Goes.via (next := T5.setTop (mkF m 64 #[si p1, si p2, si p3, si p4, si (2 : Int32), sr r1, sr r3, sr r5, .unset, .unset, .unset] [(.int (2 : Int32))])) (fun t k => XS.iconst X5.here hx rfl (hb hby at_63) k) ?_
    obtain ⟨T50, h50, ka50, X50, e50, E50, A50, Ov50, st50⟩ := newR X5 hx hZ hown (Wd hw 4 rfl) (Wd hw 34 rfl) rfl (g := (mkF m 64 #[si p1, si p2, si p3, si p4, si (2 : Int32), sr r1, sr r3, sr r5, .unset, .unset, .unset] [(.int (2 : Int32))])) rfl (hb hby at_64) rfl (by decide) (cap := 2) (by decide) (by decide) (by decide) (by decide)
    obtain ⟨b50, g50⟩ : ∃ z, z = T5.heap.size := ⟨_, rfl⟩
    rw [← g50] at A50 st50
    have lt_r1_b50 : r1 < b50 := Nat.lt_of_lt_of_le F5_42.lt (Nat.le_of_eq g50.symm)
    have lt_t1_b50 : t1 < b50 := Nat.lt_of_lt_of_le F5_45.lt (Nat.le_of_eq g50.symm)
    have lt_r3_b50 : r3 < b50 := Nat.lt_of_lt_of_le F5_46.lt (Nat.le_of_eq g50.symm)
    have lt_t3_b50 : t3 < b50 := Nat.lt_of_lt_of_le F5_49.lt (Nat.le_of_eq g50.symm)
    have lt_r5_b50 : r5 < b50 := Nat.lt_of_lt_of_le Ec5.lt (Nat.le_of_eq g50.symm)
    have lt_t5_b50 : t5 < b50 := Nat.lt_of_lt_of_le Vc5.lt (Nat.le_of_eq g50.symm)
    have ge_b50 : n0 ≤ b50 := Nat.le_trans Z5 (Nat.le_of_eq g50.symm)
    have sz_b50 : h0.size ≤ b50 := Nat.le_trans K5.1 (Nat.le_of_eq g50.symm)
    have F50_14 := F5_42.ext E50
    have F50_15 := F5_43.ext E50
    have F50_16 := F5_44.ext E50
    have F50_17 := F5_45.ext E50
    have F50_18 := F5_46.ext E50
    have F50_19 := F5_47.ext E50
    have F50_20 := F5_48.ext E50
    have F50_21 := F5_49.ext E50
    have F50_22 := Ec5.ext E50
    have F50_23 := Cc5.ext E50
    have F50_24 := Vq5.ext E50
    have F50_25 := Vc5.ext E50
    have K50 : Keep h0 h50 [] := K5.ext E50
    have Z50 : n0 ≤ h50.size := Nat.le_trans Z5 E50.1
    have O50 := O5.ext E50
    have hk := Nat.le_trans hk E50.1
    have V50 : Arv Z h50 b50 ka50 (.object "java/lang/String") (2 : Int32) [.null, .null] .null := (Arv.new A50 (by decide)).pad (pad_rep [] .null 2)
    refine Goes.via (next := T50.setTop (mkF m 67 #[si p1, si p2, si p3, si p4, si (2 : Int32), sr r1, sr r3, sr r5, .unset, .unset, .unset] [(.ref b50)])) st50 ?_
    refine Goes.via (next := T50.setTop (mkF m 71 #[si p1, si p2, si p3, si p4, si (2 : Int32), sr r1, sr r3, sr r5, .unset, .unset, .unset] [(.ref r1), (.int (0 : Int32)), (.ref b50), (.ref b50)])) (fun t k => XS.dup X50.here hx rfl (hb hby at_67) rfl rfl (XS.iconst X50.here hx rfl (hb hby at_68) (XS.aload X50.here hx rfl (hb hby at_69) rfl rfl k))) ?_
    obtain ⟨cl51, Ar51, qa51, Sa51, Na51, Ha51, Ga51⟩ := V50
    have hin51 : ¬ ((0 : Int32) < 0 ∨ cl51.slots.size ≤ ((0 : Int32)).toNatClampNeg) := inb_of Sa51 ⟨by decide, by decide⟩
    obtain ⟨T51, h51, X51, e51, W51, st51⟩ := stR X50 hx hZ e50 Ar51 (j := (0 : Int32)) hin51 rfl (Sto.ofV Ar51 qa51 Ov50 (Ins.self F50_14)) (g := (mkF m 71 #[si p1, si p2, si p3, si p4, si (2 : Int32), sr r1, sr r3, sr r5, .unset, .unset, .unset] [(.ref r1), (.int (0 : Int32)), (.ref b50), (.ref b50)])) rfl rfl (hb hby at_71)
    have V51 : Arv Z h51 b50 ka50 (.object "java/lang/String") (2 : Int32) [(.ref r1), .null] .null := Arv.set Ar51 qa51 Sa51 Na51 Ha51 Ga51 rfl W51 0 rfl (Nat.le_of_ble_eq_true rfl)
    have F51_37 := F50_14.wr W51
    have F51_38 := F50_15.other W51 (Or.inl (Nat.ne_of_lt lt_r1_b50))
    have F51_39 := F50_16.other W51 (Or.inl (Nat.ne_of_lt lt_r1_b50))
    have F51_40 := F50_17.other W51 (Nat.ne_of_lt lt_t1_b50)
    have F51_41 := F50_18.wr W51
    have F51_42 := F50_19.other W51 (Or.inl (Nat.ne_of_lt lt_r3_b50))
    have F51_43 := F50_20.other W51 (Or.inl (Nat.ne_of_lt lt_r3_b50))
    have F51_44 := F50_21.other W51 (Nat.ne_of_lt lt_t3_b50)
    have F51_45 := F50_22.wr W51
    have F51_46 := F50_23.other W51 (Or.inl (Nat.ne_of_lt lt_r5_b50))
    have F51_47 := F50_24.other W51 (Or.inl (Nat.ne_of_lt lt_r5_b50))
    have F51_48 := F50_25.other W51 (Nat.ne_of_lt lt_t5_b50)
    have K51 : Keep h0 h51 [] := K50.wr W51 (Or.inr sz_b50)
    have Z51 : n0 ≤ h51.size := Nat.le_trans Z50 (Keep.of_wr W51).1
    have N51 := Fr.snoc X51 N5 ge_b50
    have O51 := O50.wr W51 (Nat.le_trans hz ge_b50)
    have hk := Nat.le_trans hk (Keep.of_wr W51).1
    refine Goes.via (next := T51.setTop (mkF m 72 #[si p1, si p2, si p3, si p4, si (2 : Int32), sr r1, sr r3, sr r5, .unset, .unset, .unset] [(.ref b50)])) st51 ?_
    refine Goes.via (next := T51.setTop (mkF m 76 #[si p1, si p2, si p3, si p4, si (2 : Int32), sr r1, sr r3, sr r5, .unset, .unset, .unset] [(.ref r3), (.int (1 : Int32)), (.ref b50), (.ref b50)])) (fun t k => XS.dup X51.here hx rfl (hb hby at_72) rfl rfl (XS.iconst X51.here hx rfl (hb hby at_73) (XS.aload X51.here hx rfl (hb hby at_74) rfl rfl k))) ?_
    obtain ⟨cl52, Ar52, qa52, Sa52, Na52, Ha52, Ga52⟩ := V51
    have hin52 : ¬ ((1 : Int32) < 0 ∨ cl52.slots.size ≤ ((1 : Int32)).toNatClampNeg) := inb_of Sa52 ⟨by decide, by decide⟩
    obtain ⟨T52, h52, X52, e52, W52, st52⟩ := stR X51 hx hZ e51 Ar52 (j := (1 : Int32)) hin52 rfl (Sto.ofV Ar52 qa52 Ov50 (Ins.self F51_41)) (g := (mkF m 76 #[si p1, si p2, si p3, si p4, si (2 : Int32), sr r1, sr r3, sr r5, .unset, .unset, .unset] [(.ref r3), (.int (1 : Int32)), (.ref b50), (.ref b50)])) rfl rfl (hb hby at_76)
    have V52 : Arv Z h52 b50 ka50 (.object "java/lang/String") (2 : Int32) [(.ref r1), (.ref r3)] .null := Arv.set Ar52 qa52 Sa52 Na52 Ha52 Ga52 rfl W52 1 rfl (Nat.le_of_ble_eq_true rfl)
    have F52_60 := F51_37.wr W52
    have F52_61 := F51_38.other W52 (Or.inl (Nat.ne_of_lt lt_r1_b50))
    have F52_62 := F51_39.other W52 (Or.inl (Nat.ne_of_lt lt_r1_b50))
    have F52_63 := F51_40.other W52 (Nat.ne_of_lt lt_t1_b50)
    have F52_64 := F51_41.wr W52
    have F52_65 := F51_42.other W52 (Or.inl (Nat.ne_of_lt lt_r3_b50))
    have F52_66 := F51_43.other W52 (Or.inl (Nat.ne_of_lt lt_r3_b50))
    have F52_67 := F51_44.other W52 (Nat.ne_of_lt lt_t3_b50)
    have F52_68 := F51_45.wr W52
    have F52_69 := F51_46.other W52 (Or.inl (Nat.ne_of_lt lt_r5_b50))
    have F52_70 := F51_47.other W52 (Or.inl (Nat.ne_of_lt lt_r5_b50))
    have F52_71 := F51_48.other W52 (Nat.ne_of_lt lt_t5_b50)
    have K52 : Keep h0 h52 [] := K51.wr W52 (Or.inr sz_b50)
    have Z52 : n0 ≤ h52.size := Nat.le_trans Z51 (Keep.of_wr W52).1
    have N52 := Fr.snoc X52 N51 ge_b50
    have O52 := O51.wr W52 (Nat.le_trans hz ge_b50)
    have hk := Nat.le_trans hk (Keep.of_wr W52).1
    refine Goes.via (next := T52.setTop (mkF m 77 #[si p1, si p2, si p3, si p4, si (2 : Int32), sr r1, sr r3, sr r5, .unset, .unset, .unset] [(.ref b50)])) st52 ?_
    refine Goes.via (next := T52.setTop (mkF m 105 #[si p1, si p2, si p3, si p4, si (2 : Int32), sr r1, sr r3, sr r5, sr b50, .unset, .unset] [(.ref b50)])) (fun t k => XS.astore X52.here hx rfl (hb hby at_77) rfl rfl (l' := #[si p1, si p2, si p3, si p4, si (2 : Int32), sr r1, sr r3, sr r5, sr b50, .unset, .unset]) rfl (XS.goto X52.here hx rfl (pc0 := 79) (pc' := 103) rfl (hb hby at_79) (by decide) (by decide) (XS.aload X52.here hx rfl (hb hby at_103) rfl rfl k))) ?_
    obtain ⟨Lw53, X53w, N53w⟩ := ownPack X52 N52
    obtain ⟨_, _, ⟨T54, L54, k54, n54⟩, -, X54, S54, sg54, ⟨Lc54, hQ54, l54, y54, z54⟩, st54⟩ := callSS X53w hx (y := (⟨"com/example/attributes_to_claims/attributestoclaims/cli/CommandArguments$Option", "flag", "([Ljava/lang/String;)Lcom/example/attributes_to_claims/attributestoclaims/cli/CommandArguments$Option;"⟩ : MethodName)) hown (mvT hZ (Wd hw 35 rfl)) (mvT hZ (Wd hw 36 rfl)) (mvT hZ (Wd hw 37 rfl)) (mvT hZ (Wd hw 38 rfl)) (by decide) (ownBackS (W := 0) (I := fun vm => IB Z vm []) (rm8_2 l Z a0 hw [] b50 r1 r3 ka50 w0 rE rL eL kL nZ h52 h52.size (Nat.le_refl _) V52 F52_60 F52_64 O52 (Nat.le_trans hz Z52) St rfl hcE hcw) hZ (fun vm q => hI.warm q) (Wd hw 38 rfl) (Wd hw 37 rfl) (by decide) (by decide)) (g := (mkF m 105 #[si p1, si p2, si p3, si p4, si (2 : Int32), sr r1, sr r3, sr r5, sr b50, .unset, .unset] [(.ref b50)])) rfl (by rw [hml]; rfl) (argsL := [(.ref b50)]) (rest := []) (lenOf pd_31 rfl) rfl (by show 2 * 0 + _ ≤ _; exact Nat.le_of_eq rfl) (hb hby at_105) (fun _ _ => ⟨rfl, e52, (by decide : 10 + 4 ≤ _), (by decide : 26 + 9 ≤ _)⟩)
    dsimp only [Pt.U, Pt.locs, Pt.cells, Pt.slots] at X54 l54 y54 z54 st54 hQ54 S54 sg54
    subst l54 y54 z54
    obtain ⟨X54f, hS54, hZ54, hown54⟩ := rebS hS hk X54 S54 (by rw [← e52]; exact sg54) hZ hown
    have X54 := X54f
    have hS := hS54
    have hZ := hZ54
    have hown := hown54
    have hk : T54.heap.size ≤ T54.heap.size := Nat.le_refl _
    obtain ⟨r54, rn54, lv54, t54, kt54, rfl, N54q, Kc54, Ec54, Fn54, Fl54, Fp54, Ht54, Fv54, El54, Vl54, oI54⟩ := hQ54
    have N54q : Fr n0 _ := fun y q => Nat.le_trans Z52 (N54q y q)
    obtain ⟨zr54, En54, Fa54, Fb54⟩ := Ht54
    have lt_r1_rn54 : r1 < rn54 := Nat.lt_of_lt_of_le F52_60.lt zr54
    have lt_t1_rn54 : t1 < rn54 := Nat.lt_of_lt_of_le F52_63.lt zr54
    have lt_r3_rn54 : r3 < rn54 := Nat.lt_of_lt_of_le F52_64.lt zr54
    have lt_t3_rn54 : t3 < rn54 := Nat.lt_of_lt_of_le F52_67.lt zr54
    have lt_r5_rn54 : r5 < rn54 := Nat.lt_of_lt_of_le F52_68.lt zr54
    have lt_t5_rn54 : t5 < rn54 := Nat.lt_of_lt_of_le F52_71.lt zr54
    have lt_b50_rn54 : b50 < rn54 := Nat.lt_of_lt_of_le V52.lt zr54
    have F54_99 := F52_60.keep Kc54
    have F54_100 := F52_61.keep Kc54 List.not_mem_nil
    have F54_101 := F52_62.keep Kc54 List.not_mem_nil
    have F54_102 := F52_63.keep Kc54 List.not_mem_nil
    have F54_103 := F52_64.keep Kc54
    have F54_104 := F52_65.keep Kc54 List.not_mem_nil
    have F54_105 := F52_66.keep Kc54 List.not_mem_nil
    have F54_106 := F52_67.keep Kc54 List.not_mem_nil
    have F54_107 := F52_68.keep Kc54
    have F54_108 := F52_69.keep Kc54 List.not_mem_nil
    have F54_109 := F52_70.keep Kc54 List.not_mem_nil
    have F54_110 := F52_71.keep Kc54 List.not_mem_nil
    have F54_111 := V52.keep Kc54 List.not_mem_nil
    have K54 : Keep h0 T54.heap [] := K52.trans Kc54 (fun x hx => nomatch hx)
    have Z54 : n0 ≤ T54.heap.size := Nat.le_trans Z52 Kc54.1
    have O54 := O52.keep Kc54 (fun x hx => nomatch hx)
    have N54 := Fr.app N53w N54q
    have hI := oI54
    have na54 : r54 ≠ b50 := Exa.neArv Ec54 F54_111 (Wd hw 40 rfl)
    have nb54 : lv54 ≠ b50 := Exa.neArv El54 F54_111 (Wd hw 5 rfl)
    have nc54 : t54 ≠ b50 := ownNeLen Vl54 F54_111 (by decide)
    refine Goes.via (next := T54.setTop (mkF m 108 #[si p1, si p2, si p3, si p4, si (2 : Int32), sr r1, sr r3, sr r5, sr b50, .unset, .unset] [(.ref r54)])) (fun t k => st54.trans k) ?_
    refine Goes.via (next := T54.setTop (mkF m 118 #[si p1, si p2, si p3, si p4, si (2 : Int32), sr r1, sr r3, sr r5, sr b50, sr r54, .unset] [(.int (0 : Int32)), (.ref b50)])) (fun t k => XS.astore X54.here hx rfl (hb hby at_108) rfl rfl (l' := #[si p1, si p2, si p3, si p4, si (2 : Int32), sr r1, sr r3, sr r5, sr b50, sr r54, .unset]) rfl (XS.iload X54.here hx rfl (hb hby at_110) rfl (XS.ifNo X54.here hx rfl (hb hby at_112) rfl ((if0 _ _).trans (tlt (show (0 : Int32) < (2 : Int32) from (by decide))).2.2.2) (XS.aload X54.here hx rfl (hb hby at_115) rfl rfl (XS.iconst X54.here hx rfl (hb hby at_117) k))))) ?_
    obtain ⟨la55, T55, h55, kk55, lb55, lk55, X55, e55, E55, S55, hk55, Zw55, ow55, Ex55, Fc55, Fv55, Va55, lta55, ltb55, I55, Lt55, st55⟩ := ldcSVL X54 hx hZ hown (Wd hw 140 rfl) (own_wS hw) rfl hS hk (by rw [hh, ← hn0]; exact N54) (fun b cl q => by rw [hh]; exact O0.2.2 b cl q) hI (by decide) hcX hcw (vs := [(.int (120 : Int32))]) (z := (1 : Int32)) ⟨by decide, by decide⟩ (by decide) (by decide) (g := (mkF m 118 #[si p1, si p2, si p3, si p4, si (2 : Int32), sr r1, sr r3, sr r5, sr b50, sr r54, .unset] [(.int (0 : Int32)), (.ref b50)])) rfl (hb hby at_118) (n := 4) (by decide) (by decide) (by decide) (by decide)
    have F55_123 := F54_99.ext E55
    have F55_124 := F54_100.ext E55
    have F55_125 := F54_101.ext E55
    have F55_126 := F54_102.ext E55
    have F55_127 := F54_103.ext E55
    have F55_128 := F54_104.ext E55
    have F55_129 := F54_105.ext E55
    have F55_130 := F54_106.ext E55
    have F55_131 := F54_107.ext E55
    have F55_132 := F54_108.ext E55
    have F55_133 := F54_109.ext E55
    have F55_134 := F54_110.ext E55
    have F55_135 := F54_111.ext E55
    have F55_136 := Ec54.ext E55
    have F55_137 := Fn54.ext E55
    have F55_138 := Fl54.ext E55
    have F55_139 := Fp54.ext E55
    have F55_140 := El54.ext E55
    have F55_141 := Fv54.ext E55
    have F55_142 := Vl54.ext E55
    have F55_143 := En54.ext E55
    have F55_144 := Fa54.ext E55
    have F55_145 := Fb54.ext E55
    have K55 : Keep h0 h55 [] := K54.ext E55
    have Z55 : n0 ≤ h55.size := Nat.le_trans Z54 E55.1
    have O55 := O54.ext E55
    have hZ := Zw55
    have hown := ow55
    have hS := S55
    have hk := hk55
    have hI := I55
    refine Goes.via (next := T55.setTop (mkF m 120 #[si p1, si p2, si p3, si p4, si (2 : Int32), sr r1, sr r3, sr r5, sr b50, sr r54, .unset] [(.ref la55), (.int (0 : Int32)), (.ref b50)])) st55 ?_
    obtain ⟨cl56, Ar56, qa56, Sa56, Na56, Ha56, Ga56⟩ := F55_135
    have hin56 : ¬ ((0 : Int32) < 0 ∨ cl56.slots.size ≤ ((0 : Int32)).toNatClampNeg) := inb_of Sa56 ⟨by decide, by decide⟩
    obtain ⟨T56, h56, X56, e56, W56, st56⟩ := stR X55 hx hZ e55 Ar56 (j := (0 : Int32)) hin56 rfl (Sto.ofV Ar56 qa56 Ov50 (Ins.self Ex55)) (g := (mkF m 120 #[si p1, si p2, si p3, si p4, si (2 : Int32), sr r1, sr r3, sr r5, sr b50, sr r54, .unset] [(.ref la55), (.int (0 : Int32)), (.ref b50)])) rfl rfl (hb hby at_120)
    have V56 : Arv Z h56 b50 ka50 (.object "java/lang/String") (2 : Int32) [(.ref la55), (.ref r3)] .null := Arv.set Ar56 qa56 Sa56 Na56 Ha56 Ga56 rfl W56 0 rfl (Nat.le_of_ble_eq_true rfl)
    have F56_159 := F55_123.wr W56
    have F56_160 := F55_124.other W56 (Or.inl (Nat.ne_of_lt lt_r1_b50))
    have F56_161 := F55_125.other W56 (Or.inl (Nat.ne_of_lt lt_r1_b50))
    have F56_162 := F55_126.other W56 (Nat.ne_of_lt lt_t1_b50)
    have F56_163 := F55_127.wr W56
    have F56_164 := F55_128.other W56 (Or.inl (Nat.ne_of_lt lt_r3_b50))
    have F56_165 := F55_129.other W56 (Or.inl (Nat.ne_of_lt lt_r3_b50))
    have F56_166 := F55_130.other W56 (Nat.ne_of_lt lt_t3_b50)
    have F56_167 := F55_131.wr W56
    have F56_168 := F55_132.other W56 (Or.inl (Nat.ne_of_lt lt_r5_b50))
    have F56_169 := F55_133.other W56 (Or.inl (Nat.ne_of_lt lt_r5_b50))
    have F56_170 := F55_134.other W56 (Nat.ne_of_lt lt_t5_b50)
    have F56_171 := F55_136.wr W56
    have F56_172 := F55_137.other W56 (Or.inl na54)
    have F56_173 := F55_138.other W56 (Or.inl na54)
    have F56_174 := F55_139.other W56 (Or.inl na54)
    have F56_175 := F55_140.wr W56
    have F56_176 := F55_141.other W56 (Or.inl nb54)
    have F56_177 := F55_142.other W56 nc54
    have F56_178 := F55_143.wr W56
    have F56_179 := F55_144.other W56 (Or.inl (Nat.ne_of_gt lt_b50_rn54))
    have F56_180 := F55_145.other W56 (Or.inl (Nat.ne_of_gt lt_b50_rn54))
    have F56_181 := Ex55.wr W56
    have K56 : Keep h0 h56 [] := K55.wr W56 (Or.inr sz_b50)
    have Z56 : n0 ≤ h56.size := Nat.le_trans Z55 (Keep.of_wr W56).1
    have N56 := Fr.snoc X56 N54 ge_b50
    have O56 := O55.wr W56 (Nat.le_trans hz ge_b50)
    have hk := Nat.le_trans hk (Keep.of_wr W56).1
    refine Goes.via (next := T56.setTop (mkF m 121 #[si p1, si p2, si p3, si p4, si (2 : Int32), sr r1, sr r3, sr r5, sr b50, sr r54, .unset] [])) st56 ?_
    refine Goes.via (next := T56.setTop (mkF m 123 #[si p1, si p2, si p3, si p4, si (2 : Int32), sr r1, sr r3, sr r5, sr b50, sr r54, .unset] [(.ref r54)])) (fun t k => XS.aload X56.here hx rfl (hb hby at_121) rfl rfl k) ?_
    refine Goes.via (next := T56.setTop (mkF m 128 #[si p1, si p2, si p3, si p4, si (2 : Int32), sr r1, sr r3, sr r5, sr b50, sr r54, .unset] [])) (fun t k => XS.ifnonnullYes X56.here hx rfl (pc0 := 123) (pc' := 128) rfl (hb hby at_123) rfl (by decide) (by decide) k) ?_
    refine Goes.via (next := T56.setTop (mkF m 130 #[si p1, si p2, si p3, si p4, si (2 : Int32), sr r1, sr r3, sr r5, sr b50, sr r54, .unset] [(.ref r54)])) (fun t k => XS.aload X56.here hx rfl (hb hby at_128) rfl rfl k) ?_
    obtain ⟨Lw57, X57w, N57w⟩ := ownPack X56 N56
    obtain ⟨cq58, kq58, q58a, q58b, q58c⟩ := isOf hZ e56 F56_171
    obtain ⟨_, _, ⟨T58, L58, k58, n58⟩, -, X58, ⟨Lc58, hQ58, l58, y58, z58⟩, st58⟩ := X57w.virtualBack hx (y := (⟨"com/example/attributes_to_claims/attributestoclaims/cli/CommandArguments$Option", "names", "()Ljava/util/List;"⟩ : MethodName)) (z := (⟨"com/example/attributes_to_claims/attributestoclaims/cli/CommandArguments$Option", "names", "()Ljava/util/List;"⟩ : MethodName)) hown (mvT hZ (Wd hw 65 rfl)) (mvT hZ (Wd hw 66 rfl)) (notFace_of_selects (args := #[]) (mvT hZ (Wd hw 68 rfl))) (mvT hZ (Wd hw 68 rfl)) (mvT hZ (Wd hw 67 rfl)) (by decide) (backOf (W := 0) (rm12 l Z a0 hw [] r54 rn54 h56 n0 Z56 F56_172) hZ (Wd hw 69 rfl) (Wd hw 37 rfl) (by decide) (by decide)) q58a q58c (g := (mkF m 130 #[si p1, si p2, si p3, si p4, si (2 : Int32), sr r1, sr r3, sr r5, sr b50, sr r54, .unset] [(.ref r54)])) rfl (by rw [hml]; rfl) (Steps.refl _) (argsL := []) (rest := []) (lenOf pd_32 rfl) rfl (by show 2 * 0 + _ ≤ _; exact Nat.le_of_eq rfl) (hb hby at_130) (fun _ _ => ⟨rfl, e56, (by decide : 16 + 0 ≤ _), (by decide : 43 + 0 ≤ _)⟩)
    dsimp only [Pt.U, Pt.locs, Pt.cells, Pt.slots] at X58 l58 y58 z58 st58 hQ58
    subst l58 y58 z58
    obtain ⟨rfl, N58q, er58⟩ := hQ58
    have e58 : T58.heap = h56 := er58
    have N58 := Fr.app N57w N58q
    refine Goes.via (next := T58.setTop (mkF m 133 #[si p1, si p2, si p3, si p4, si (2 : Int32), sr r1, sr r3, sr r5, sr b50, sr r54, .unset] [(.ref rn54)])) (fun t k => st58.trans k) ?_
    refine Goes.via (next := T58.setTop (mkF m 137 #[si p1, si p2, si p3, si p4, si (2 : Int32), sr r1, sr r3, sr r5, sr b50, sr r54, sr rn54] [(.ref rn54)])) (fun t k => XS.astore X58.here hx rfl (hb hby at_133) rfl rfl (l' := #[si p1, si p2, si p3, si p4, si (2 : Int32), sr r1, sr r3, sr r5, sr b50, sr r54, sr rn54]) rfl (XS.aload X58.here hx rfl (hb hby at_135) rfl rfl k)) ?_
    obtain ⟨Lw59, X59w, N59w⟩ := ownPack X58 N58
    obtain ⟨cq60, kq60, q60a, q60b, q60c⟩ := isOf hZ e58 F56_178
    obtain ⟨_, _, ⟨T60, L60, k60, n60⟩, -, X60, ⟨Lc60, hQ60, l60, y60, z60⟩, st60⟩ := X59w.interfaceBack hx (xi := (⟨"java/util/List", "size", "()I"⟩ : MethodName)) (y := (⟨"java/util/ImmutableCollections$List12", "size", "()I"⟩ : MethodName)) hown (mvT hZ (Wd hw 70 rfl)) (mvT hZ (Wd hw 71 rfl)) (mvT hZ (Wd hw 72 rfl)) (mvT hZ (Wd hw 297 rfl)) (mvT hZ (Wd hw 298 rfl)) (mvT hZ (Wd hw 299 rfl)) (mvT hZ (Wd hw 300 rfl)) (mvT hZ (Wd hw 301 rfl)) (by decide) (backOf (W := 0) (rm51_2 l Z a0 hw [] rn54 r3 w0 rE rL eL kL nZ h56 n0 Z56 F56_180 (Ne.symm (O0.ne St.2.2.2.1 (Nat.le_trans hz gr3))) O56 hz St) hZ (Wd hw 302 rfl) (Wd hw 283 rfl) (by decide) (by decide)) q60a q60b q60c (g := (mkF m 137 #[si p1, si p2, si p3, si p4, si (2 : Int32), sr r1, sr r3, sr r5, sr b50, sr r54, sr rn54] [(.ref rn54)])) rfl (by rw [hml]; rfl) (Steps.refl _) (argsL := []) (rest := []) (lenOf pd_16 rfl) rfl (by show 2 * 0 + _ ≤ _; exact Nat.le_of_eq rfl) (hb hby at_137) (fun _ _ => ⟨rfl, e58, (by decide : 16 + 0 ≤ _), (by decide : 43 + 0 ≤ _)⟩)
    dsimp only [Pt.U, Pt.locs, Pt.cells, Pt.slots] at X60 l60 y60 z60 st60 hQ60
    subst l60 y60 z60
    obtain ⟨rfl, N60q, er60⟩ := hQ60
    have e60 : T60.heap = h56 := er60
    have N60 := Fr.app N59w N60q
    refine Goes.via (next := T60.setTop (mkF m 142 #[si p1, si p2, si p3, si p4, si (2 : Int32), sr r1, sr r3, sr r5, sr b50, sr r54, sr rn54] [(.int (2 : Int32))])) (fun t k => st60.trans k) ?_
    refine Goes.via (next := T60.setTop (mkF m 157 #[si p1, si p2, si p3, si p4, si (2 : Int32), sr r1, sr r3, sr r5, sr b50, sr r54, sr rn54] [(.ref rn54)])) (fun t k => XS.iload X60.here hx rfl (hb hby at_142) rfl (XS.icmpYes X60.here hx rfl (pc0 := 144) (pc' := 149) rfl (hb hby at_144) rfl (teq (show (2 : Int32) = (2 : Int32) from rfl)).1 (by decide) (by decide) (XS.iload X60.here hx rfl (hb hby at_149) rfl (XS.iconst X60.here hx rfl (hb hby at_151) (XS.icmpNo X60.here hx rfl (hb hby at_152) rfl (flt (show ¬ ((2 : Int32) < (1 : Int32)) from (by decide))).1 (XS.aload X60.here hx rfl (hb hby at_155) rfl rfl k)))))) ?_
    refine Goes.via (next := T60.setTop (mkF m 158 #[si p1, si p2, si p3, si p4, si (2 : Int32), sr r1, sr r3, sr r5, sr b50, sr r54, sr rn54] [(.int (0 : Int32)), (.ref rn54)])) (fun t k => XS.iconst X60.here hx rfl (hb hby at_157) k) ?_
    obtain ⟨Lw61, X61w, N61w⟩ := ownPack X60 N60
    obtain ⟨cq62, kq62, q62a, q62b, q62c⟩ := isOf hZ e60 F56_178
    obtain ⟨_, _, ⟨T62, L62, k62, n62⟩, -, X62, ⟨Lc62, hQ62, l62, y62, z62⟩, st62⟩ := X61w.interfaceBack hx (xi := (⟨"java/util/List", "get", "(I)Ljava/lang/Object;"⟩ : MethodName)) (y := (⟨"java/util/ImmutableCollections$List12", "get", "(I)Ljava/lang/Object;"⟩ : MethodName)) hown (mvT hZ (Wd hw 141 rfl)) (mvT hZ (Wd hw 142 rfl)) (mvT hZ (Wd hw 143 rfl)) (mvT hZ (Wd hw 304 rfl)) (mvT hZ (Wd hw 305 rfl)) (mvT hZ (Wd hw 306 rfl)) (mvT hZ (Wd hw 307 rfl)) (mvT hZ (Wd hw 301 rfl)) (by decide) (backOf (W := 0) (rm52_0 l Z a0 hw [] rn54 r1 h56 n0 Z56 F56_179) hZ (Wd hw 308 rfl) (Wd hw 283 rfl) (by decide) (by decide)) q62a q62b q62c (g := (mkF m 158 #[si p1, si p2, si p3, si p4, si (2 : Int32), sr r1, sr r3, sr r5, sr b50, sr r54, sr rn54] [(.int (0 : Int32)), (.ref rn54)])) rfl (by rw [hml]; rfl) (Steps.refl _) (argsL := [(.int (0 : Int32))]) (rest := []) (lenOf pd_28 rfl) rfl (by show 2 * 0 + _ ≤ _; exact Nat.le_of_eq rfl) (hb hby at_158) (fun _ _ => ⟨rfl, e60, (by decide : 16 + 0 ≤ _), (by decide : 43 + 0 ≤ _)⟩)
    dsimp only [Pt.U, Pt.locs, Pt.cells, Pt.slots] at X62 l62 y62 z62 st62 hQ62
    subst l62 y62 z62
    obtain ⟨rfl, N62q, er62⟩ := hQ62
    have e62 : T62.heap = h56 := er62
    have N62 := Fr.app N61w N62q
    refine Goes.via (next := T62.setTop (mkF m 163 #[si p1, si p2, si p3, si p4, si (2 : Int32), sr r1, sr r3, sr r5, sr b50, sr r54, sr rn54] [(.ref r1)])) (fun t k => st62.trans k) ?_
    obtain ⟨T63, X63, e63, st63⟩ := castY X62 hx hZ hown (Wd hw 4 rfl) e62 (Ins.self F56_159) (g := (mkF m 163 #[si p1, si p2, si p3, si p4, si (2 : Int32), sr r1, sr r3, sr r5, sr b50, sr r54, sr rn54] [(.ref r1)])) rfl rfl (hb hby at_163)
    refine Goes.via (next := T63.setTop (mkF m 166 #[si p1, si p2, si p3, si p4, si (2 : Int32), sr r1, sr r3, sr r5, sr b50, sr r54, sr rn54] [(.ref r1)])) st63 ?_
    refine Goes.via (next := T63.setTop (mkF m 168 #[si p1, si p2, si p3, si p4, si (2 : Int32), sr r1, sr r3, sr r5, sr b50, sr r54, sr rn54] [(.ref r1), (.ref r1)])) (fun t k => XS.aload X63.here hx rfl (hb hby at_166) rfl rfl k) ?_
    obtain ⟨Lw64, X64w, N64w⟩ := ownPack X63 N62
    obtain ⟨cq65, kq65, q65a, q65b, q65c⟩ := isOf hZ e63 F56_159
    obtain ⟨_, _, ⟨T65, L65, k65, n65⟩, -, X65, ⟨Lc65, hQ65, l65, y65, z65⟩, st65⟩ := X64w.virtualBack hx (y := (⟨"java/lang/String", "equals", "(Ljava/lang/Object;)Z"⟩ : MethodName)) (z := (⟨"java/lang/String", "equals", "(Ljava/lang/Object;)Z"⟩ : MethodName)) hown (mvT hZ (Wd hw 149 rfl)) (mvT hZ (Wd hw 150 rfl)) (notFace_of_selects (args := #[]) (mvT hZ (Wd hw 152 rfl))) (mvT hZ (Wd hw 152 rfl)) (mvT hZ (Wd hw 151 rfl)) (by decide) (backOf (W := 0) (rm25_s l Z a0 hw [] r1  h56 n0 Z56 ) hZ (Wd hw 153 rfl) (Wd hw 6 rfl) (by decide) (by decide)) q65a q65c (g := (mkF m 168 #[si p1, si p2, si p3, si p4, si (2 : Int32), sr r1, sr r3, sr r5, sr b50, sr r54, sr rn54] [(.ref r1), (.ref r1)])) rfl (by rw [hml]; rfl) (Steps.refl _) (argsL := [(.ref r1)]) (rest := []) (lenOf pd_33 rfl) rfl (by show 2 * 0 + _ ≤ _; exact Nat.le_of_eq rfl) (hb hby at_168) (fun _ _ => ⟨rfl, e63, (by decide : 16 + 0 ≤ _), (by decide : 43 + 0 ≤ _)⟩)
    dsimp only [Pt.U, Pt.locs, Pt.cells, Pt.slots] at X65 l65 y65 z65 st65 hQ65
    subst l65 y65 z65
    obtain ⟨rfl, N65q, er65⟩ := hQ65
    have e65 : T65.heap = h56 := er65
    have N65 := Fr.app N64w N65q
    refine Goes.via (next := T65.setTop (mkF m 171 #[si p1, si p2, si p3, si p4, si (2 : Int32), sr r1, sr r3, sr r5, sr b50, sr r54, sr rn54] [(.int (1 : Int32))])) (fun t k => st65.trans k) ?_
    refine Goes.via (next := T65.setTop (mkF m 176 #[si p1, si p2, si p3, si p4, si (2 : Int32), sr r1, sr r3, sr r5, sr b50, sr r54, sr rn54] [])) (fun t k => XS.ifYes X65.here hx rfl (pc0 := 171) (pc' := 176) rfl (hb hby at_171) rfl ((if0 _ _).trans (feq (show ¬ ((1 : Int32) = (0 : Int32)) from (by decide))).2) (by decide) (by decide) k) ?_
    refine Goes.via (next := T65.setTop (mkF m 185 #[si p1, si p2, si p3, si p4, si (2 : Int32), sr r1, sr r3, sr r5, sr b50, sr r54, sr rn54] [(.int (1 : Int32)), (.ref rn54)])) (fun t k => XS.iload X65.here hx rfl (hb hby at_176) rfl (XS.iconst X65.here hx rfl (hb hby at_178) (XS.icmpNo X65.here hx rfl (hb hby at_179) rfl (flt (show ¬ ((2 : Int32) < (2 : Int32)) from (by decide))).1 (XS.aload X65.here hx rfl (hb hby at_182) rfl rfl (XS.iconst X65.here hx rfl (hb hby at_184) k))))) ?_
    obtain ⟨Lw66, X66w, N66w⟩ := ownPack X65 N65
    obtain ⟨cq67, kq67, q67a, q67b, q67c⟩ := isOf hZ e65 F56_178
    obtain ⟨_, _, ⟨T67, L67, k67, n67⟩, -, X67, ⟨Lc67, hQ67, l67, y67, z67⟩, st67⟩ := X66w.interfaceBack hx (xi := (⟨"java/util/List", "get", "(I)Ljava/lang/Object;"⟩ : MethodName)) (y := (⟨"java/util/ImmutableCollections$List12", "get", "(I)Ljava/lang/Object;"⟩ : MethodName)) hown (mvT hZ (Wd hw 141 rfl)) (mvT hZ (Wd hw 142 rfl)) (mvT hZ (Wd hw 143 rfl)) (mvT hZ (Wd hw 304 rfl)) (mvT hZ (Wd hw 305 rfl)) (mvT hZ (Wd hw 306 rfl)) (mvT hZ (Wd hw 307 rfl)) (mvT hZ (Wd hw 301 rfl)) (by decide) (backOf (W := 0) (rm52_1 l Z a0 hw [] rn54 r3 w0 rE rL eL kL nZ h56 n0 Z56 F56_180 (Ne.symm (O0.ne St.2.2.2.1 (Nat.le_trans hz gr3))) O56 hz St) hZ (Wd hw 308 rfl) (Wd hw 283 rfl) (by decide) (by decide)) q67a q67b q67c (g := (mkF m 185 #[si p1, si p2, si p3, si p4, si (2 : Int32), sr r1, sr r3, sr r5, sr b50, sr r54, sr rn54] [(.int (1 : Int32)), (.ref rn54)])) rfl (by rw [hml]; rfl) (Steps.refl _) (argsL := [(.int (1 : Int32))]) (rest := []) (lenOf pd_28 rfl) rfl (by show 2 * 0 + _ ≤ _; exact Nat.le_of_eq rfl) (hb hby at_185) (fun _ _ => ⟨rfl, e65, (by decide : 16 + 0 ≤ _), (by decide : 43 + 0 ≤ _)⟩)
    dsimp only [Pt.U, Pt.locs, Pt.cells, Pt.slots] at X67 l67 y67 z67 st67 hQ67
    subst l67 y67 z67
    obtain ⟨rfl, N67q, er67⟩ := hQ67
    have e67 : T67.heap = h56 := er67
    have N67 := Fr.app N66w N67q
    refine Goes.via (next := T67.setTop (mkF m 190 #[si p1, si p2, si p3, si p4, si (2 : Int32), sr r1, sr r3, sr r5, sr b50, sr r54, sr rn54] [(.ref r3)])) (fun t k => st67.trans k) ?_
    obtain ⟨T68, X68, e68, st68⟩ := castY X67 hx hZ hown (Wd hw 4 rfl) e67 (Ins.self F56_163) (g := (mkF m 190 #[si p1, si p2, si p3, si p4, si (2 : Int32), sr r1, sr r3, sr r5, sr b50, sr r54, sr rn54] [(.ref r3)])) rfl rfl (hb hby at_190)
    refine Goes.via (next := T68.setTop (mkF m 193 #[si p1, si p2, si p3, si p4, si (2 : Int32), sr r1, sr r3, sr r5, sr b50, sr r54, sr rn54] [(.ref r3)])) st68 ?_
    refine Goes.via (next := T68.setTop (mkF m 195 #[si p1, si p2, si p3, si p4, si (2 : Int32), sr r1, sr r3, sr r5, sr b50, sr r54, sr rn54] [(.ref r3), (.ref r3)])) (fun t k => XS.aload X68.here hx rfl (hb hby at_193) rfl rfl k) ?_
    obtain ⟨Lw69, X69w, N69w⟩ := ownPack X68 N67
    obtain ⟨cq70, kq70, q70a, q70b, q70c⟩ := isOf hZ e68 F56_163
    obtain ⟨_, _, ⟨T70, L70, k70, n70⟩, -, X70, ⟨Lc70, hQ70, l70, y70, z70⟩, st70⟩ := X69w.virtualBack hx (y := (⟨"java/lang/String", "equals", "(Ljava/lang/Object;)Z"⟩ : MethodName)) (z := (⟨"java/lang/String", "equals", "(Ljava/lang/Object;)Z"⟩ : MethodName)) hown (mvT hZ (Wd hw 149 rfl)) (mvT hZ (Wd hw 150 rfl)) (notFace_of_selects (args := #[]) (mvT hZ (Wd hw 152 rfl))) (mvT hZ (Wd hw 152 rfl)) (mvT hZ (Wd hw 151 rfl)) (by decide) (backOf (W := 0) (rm25_s l Z a0 hw [] r3  h56 n0 Z56 ) hZ (Wd hw 153 rfl) (Wd hw 6 rfl) (by decide) (by decide)) q70a q70c (g := (mkF m 195 #[si p1, si p2, si p3, si p4, si (2 : Int32), sr r1, sr r3, sr r5, sr b50, sr r54, sr rn54] [(.ref r3), (.ref r3)])) rfl (by rw [hml]; rfl) (Steps.refl _) (argsL := [(.ref r3)]) (rest := []) (lenOf pd_33 rfl) rfl (by show 2 * 0 + _ ≤ _; exact Nat.le_of_eq rfl) (hb hby at_195) (fun _ _ => ⟨rfl, e68, (by decide : 16 + 0 ≤ _), (by decide : 43 + 0 ≤ _)⟩)
    dsimp only [Pt.U, Pt.locs, Pt.cells, Pt.slots] at X70 l70 y70 z70 st70 hQ70
    subst l70 y70 z70
    obtain ⟨rfl, N70q, er70⟩ := hQ70
    have e70 : T70.heap = h56 := er70
    have N70 := Fr.app N69w N70q
    refine Goes.via (next := T70.setTop (mkF m 198 #[si p1, si p2, si p3, si p4, si (2 : Int32), sr r1, sr r3, sr r5, sr b50, sr r54, sr rn54] [(.int (1 : Int32))])) (fun t k => st70.trans k) ?_
    refine Goes.via (next := T70.setTop (mkF m 203 #[si p1, si p2, si p3, si p4, si (2 : Int32), sr r1, sr r3, sr r5, sr b50, sr r54, sr rn54] [])) (fun t k => XS.ifYes X70.here hx rfl (pc0 := 198) (pc' := 203) rfl (hb hby at_198) rfl ((if0 _ _).trans (feq (show ¬ ((1 : Int32) = (0 : Int32)) from (by decide))).2) (by decide) (by decide) k) ?_
    refine Goes.via (next := T70.setTop (mkF m 232 #[si p1, si p2, si p3, si p4, si (2 : Int32), sr r1, sr r3, sr r5, sr b50, sr r54, sr rn54] [(.ref r54)])) (fun t k => XS.iload X70.here hx rfl (hb hby at_203) rfl (XS.iconst X70.here hx rfl (hb hby at_205) (XS.icmpYes X70.here hx rfl (pc0 := 206) (pc' := 230) rfl (hb hby at_206) rfl (tlt (show (2 : Int32) < (3 : Int32) from (by decide))).1 (by decide) (by decide) (XS.aload X70.here hx rfl (hb hby at_230) rfl rfl k)))) ?_
    obtain ⟨Lw71, X71w, N71w⟩ := ownPack X70 N70
    obtain ⟨cq72, kq72, q72a, q72b, q72c⟩ := isOf hZ e70 F56_171
    obtain ⟨_, _, ⟨T72, L72, k72, n72⟩, -, X72, ⟨Lc72, hQ72, l72, y72, z72⟩, st72⟩ := X71w.virtualBack hx (y := (⟨"com/example/attributes_to_claims/attributestoclaims/cli/CommandArguments$Option", "label", "()Ljava/lang/String;"⟩ : MethodName)) (z := (⟨"com/example/attributes_to_claims/attributestoclaims/cli/CommandArguments$Option", "label", "()Ljava/lang/String;"⟩ : MethodName)) hown (mvT hZ (Wd hw 82 rfl)) (mvT hZ (Wd hw 83 rfl)) (notFace_of_selects (args := #[]) (mvT hZ (Wd hw 85 rfl))) (mvT hZ (Wd hw 85 rfl)) (mvT hZ (Wd hw 84 rfl)) (by decide) (backOf (W := 0) (rm14 l Z a0 hw [] r54 lv54 h56 n0 Z56 F56_173) hZ (Wd hw 86 rfl) (Wd hw 37 rfl) (by decide) (by decide)) q72a q72c (g := (mkF m 232 #[si p1, si p2, si p3, si p4, si (2 : Int32), sr r1, sr r3, sr r5, sr b50, sr r54, sr rn54] [(.ref r54)])) rfl (by rw [hml]; rfl) (Steps.refl _) (argsL := []) (rest := []) (lenOf pd_29 rfl) rfl (by show 2 * 0 + _ ≤ _; exact Nat.le_of_eq rfl) (hb hby at_232) (fun _ _ => ⟨rfl, e70, (by decide : 16 + 0 ≤ _), (by decide : 43 + 0 ≤ _)⟩)
    dsimp only [Pt.U, Pt.locs, Pt.cells, Pt.slots] at X72 l72 y72 z72 st72 hQ72
    subst l72 y72 z72
    obtain ⟨rfl, N72q, er72⟩ := hQ72
    have e72 : T72.heap = h56 := er72
    have N72 := Fr.app N71w N72q
    refine Goes.via (next := T72.setTop (mkF m 235 #[si p1, si p2, si p3, si p4, si (2 : Int32), sr r1, sr r3, sr r5, sr b50, sr r54, sr rn54] [(.ref lv54)])) (fun t k => st72.trans k) ?_
    obtain ⟨Lw73, X73w, N73w⟩ := ownPack X72 N72
    obtain ⟨cq74, kq74, q74a, q74b, q74c⟩ := isOf hZ e72 F56_175
    obtain ⟨_, _, ⟨T74, L74, k74, n74⟩, -, X74, ⟨Lc74, hQ74, l74, y74, z74⟩, st74⟩ := X73w.virtualBack hx (y := (⟨"java/lang/String", "isEmpty", "()Z"⟩ : MethodName)) (z := (⟨"java/lang/String", "isEmpty", "()Z"⟩ : MethodName)) hown (mvT hZ (Wd hw 87 rfl)) (mvT hZ (Wd hw 88 rfl)) (notFace_of_selects (args := #[]) (mvT hZ (Wd hw 90 rfl))) (mvT hZ (Wd hw 90 rfl)) (mvT hZ (Wd hw 89 rfl)) (by decide) (backOf (W := 0) (rm15 l Z a0 hw [] lv54 t54 kt54 h56 n0 Z56 F56_176 F56_177) hZ (Wd hw 91 rfl) (Wd hw 6 rfl) (by decide) (by decide)) q74a q74c (g := (mkF m 235 #[si p1, si p2, si p3, si p4, si (2 : Int32), sr r1, sr r3, sr r5, sr b50, sr r54, sr rn54] [(.ref lv54)])) rfl (by rw [hml]; rfl) (Steps.refl _) (argsL := []) (rest := []) (lenOf pd_23 rfl) rfl (by show 2 * 0 + _ ≤ _; exact Nat.le_of_eq rfl) (hb hby at_235) (fun _ _ => ⟨rfl, e72, (by decide : 16 + 0 ≤ _), (by decide : 43 + 0 ≤ _)⟩)
    dsimp only [Pt.U, Pt.locs, Pt.cells, Pt.slots] at X74 l74 y74 z74 st74 hQ74
    subst l74 y74 z74
    obtain ⟨rfl, N74q, er74⟩ := hQ74
    have e74 : T74.heap = h56 := er74
    have N74 := Fr.app N73w N74q
    refine Goes.via (next := T74.setTop (mkF m 238 #[si p1, si p2, si p3, si p4, si (2 : Int32), sr r1, sr r3, sr r5, sr b50, sr r54, sr rn54] [(.int (1 : Int32))])) (fun t k => st74.trans k) ?_
    refine Goes.via (next := T74.setTop (mkF m 243 #[si p1, si p2, si p3, si p4, si (2 : Int32), sr r1, sr r3, sr r5, sr b50, sr r54, sr rn54] [])) (fun t k => XS.ifYes X74.here hx rfl (pc0 := 238) (pc' := 243) rfl (hb hby at_238) rfl ((if0 _ _).trans (feq (show ¬ ((1 : Int32) = (0 : Int32)) from (by decide))).2) (by decide) (by decide) k) ?_
    refine Goes.via (next := T74.setTop (mkF m 245 #[si p1, si p2, si p3, si p4, si (2 : Int32), sr r1, sr r3, sr r5, sr b50, sr r54, sr rn54] [(.ref r54)])) (fun t k => XS.aload X74.here hx rfl (hb hby at_243) rfl rfl k) ?_
    obtain ⟨Lw75, X75w, N75w⟩ := ownPack X74 N74
    obtain ⟨cq76, kq76, q76a, q76b, q76c⟩ := isOf hZ e74 F56_171
    obtain ⟨_, _, ⟨T76, L76, k76, n76⟩, -, X76, ⟨Lc76, hQ76, l76, y76, z76⟩, st76⟩ := X75w.virtualBack hx (y := (⟨"com/example/attributes_to_claims/attributestoclaims/cli/CommandArguments$Option", "repeatable", "()Z"⟩ : MethodName)) (z := (⟨"com/example/attributes_to_claims/attributestoclaims/cli/CommandArguments$Option", "repeatable", "()Z"⟩ : MethodName)) hown (mvT hZ (Wd hw 92 rfl)) (mvT hZ (Wd hw 93 rfl)) (notFace_of_selects (args := #[]) (mvT hZ (Wd hw 95 rfl))) (mvT hZ (Wd hw 95 rfl)) (mvT hZ (Wd hw 94 rfl)) (by decide) (backOf (W := 0) (rm16 l Z a0 hw [] r54  h56 n0 Z56 F56_174) hZ (Wd hw 96 rfl) (Wd hw 37 rfl) (by decide) (by decide)) q76a q76c (g := (mkF m 245 #[si p1, si p2, si p3, si p4, si (2 : Int32), sr r1, sr r3, sr r5, sr b50, sr r54, sr rn54] [(.ref r54)])) rfl (by rw [hml]; rfl) (Steps.refl _) (argsL := []) (rest := []) (lenOf pd_23 rfl) rfl (by show 2 * 0 + _ ≤ _; exact Nat.le_of_eq rfl) (hb hby at_245) (fun _ _ => ⟨rfl, e74, (by decide : 16 + 0 ≤ _), (by decide : 43 + 0 ≤ _)⟩)
    dsimp only [Pt.U, Pt.locs, Pt.cells, Pt.slots] at X76 l76 y76 z76 st76 hQ76
    subst l76 y76 z76
    obtain ⟨rfl, N76q, er76⟩ := hQ76
    have e76 : T76.heap = h56 := er76
    have N76 := Fr.app N75w N76q
    refine Goes.via (next := T76.setTop (mkF m 248 #[si p1, si p2, si p3, si p4, si (2 : Int32), sr r1, sr r3, sr r5, sr b50, sr r54, sr rn54] [(.int (0 : Int32))])) (fun t k => st76.trans k) ?_
    refine Goes.via (next := T76.setTop (mkF m 253 #[si p1, si p2, si p3, si p4, si (2 : Int32), sr r1, sr r3, sr r5, sr b50, sr r54, sr rn54] [])) (fun t k => XS.ifYes X76.here hx rfl (pc0 := 248) (pc' := 253) rfl (hb hby at_248) rfl ((if0 _ _).trans (teq (show (0 : Int32) = (0 : Int32) from rfl)).1) (by decide) (by decide) k) ?_
    refine Goes.via (next := T76.setTop (mkF m 255 #[si p1, si p2, si p3, si p4, si (2 : Int32), sr r1, sr r3, sr r5, sr b50, sr r54, sr rn54] [(.ref r54)])) (fun t k => XS.aload X76.here hx rfl (hb hby at_253) rfl rfl k) ?_
    obtain ⟨Lw77, X77w, N77w⟩ := ownPack X76 N76
    obtain ⟨cq78, kq78, q78a, q78b, q78c⟩ := isOf hZ e76 F56_171
    obtain ⟨_, _, ⟨T78, L78, k78, n78⟩, -, X78, ⟨Lc78, hQ78, l78, y78, z78⟩, st78⟩ := X77w.virtualBack hx (y := (⟨"com/example/attributes_to_claims/attributestoclaims/cli/CommandArguments$Option", "isFlag", "()Z"⟩ : MethodName)) (z := (⟨"com/example/attributes_to_claims/attributestoclaims/cli/CommandArguments$Option", "isFlag", "()Z"⟩ : MethodName)) hown (mvT hZ (Wd hw 97 rfl)) (mvT hZ (Wd hw 98 rfl)) (notFace_of_selects (args := #[]) (mvT hZ (Wd hw 100 rfl))) (mvT hZ (Wd hw 100 rfl)) (mvT hZ (Wd hw 99 rfl)) (by decide) (backOf (W := 0) (rm17 l Z a0 hw [] r54 lv54 t54 kt54 h56 n0 Z56 F56_173 F56_175 F56_176 F56_177) hZ (Wd hw 101 rfl) (Wd hw 37 rfl) (by decide) (by decide)) q78a q78c (g := (mkF m 255 #[si p1, si p2, si p3, si p4, si (2 : Int32), sr r1, sr r3, sr r5, sr b50, sr r54, sr rn54] [(.ref r54)])) rfl (by rw [hml]; rfl) (Steps.refl _) (argsL := []) (rest := []) (lenOf pd_23 rfl) rfl (by show 2 * 0 + _ ≤ _; exact Nat.le_of_eq rfl) (hb hby at_255) (fun _ _ => ⟨rfl, e76, (by decide : 16 + 0 ≤ _), (by decide : 43 + 0 ≤ _)⟩)
    dsimp only [Pt.U, Pt.locs, Pt.cells, Pt.slots] at X78 l78 y78 z78 st78 hQ78
    subst l78 y78 z78
    obtain ⟨rfl, N78q, er78⟩ := hQ78
    have e78 : T78.heap = h56 := er78
    have N78 := Fr.app N77w N78q
    refine Goes.via (next := T78.setTop (mkF m 258 #[si p1, si p2, si p3, si p4, si (2 : Int32), sr r1, sr r3, sr r5, sr b50, sr r54, sr rn54] [(.int (1 : Int32))])) (fun t k => st78.trans k) ?_
    refine Goes.via (next := T78.setTop (mkF m 263 #[si p1, si p2, si p3, si p4, si (2 : Int32), sr r1, sr r3, sr r5, sr b50, sr r54, sr rn54] [])) (fun t k => XS.ifYes X78.here hx rfl (pc0 := 258) (pc' := 263) rfl (hb hby at_258) rfl ((if0 _ _).trans (feq (show ¬ ((1 : Int32) = (0 : Int32)) from (by decide))).2) (by decide) (by decide) k) ?_
    refine Goes.via (next := T78.setTop (mkF m 271 #[si p1, si p2, si p3, si p4, si (2 : Int32), sr r1, sr r3, sr r5, sr b50, sr r54, sr rn54] [(.ref r54)])) (fun t k => XS.iload X78.here hx rfl (hb hby at_263) rfl (XS.iconst X78.here hx rfl (hb hby at_265) (XS.icmpNo X78.here hx rfl (hb hby at_266) rfl (flt (show ¬ ((2 : Int32) < (1 : Int32)) from (by decide))).1 (XS.aload X78.here hx rfl (hb hby at_269) rfl rfl k)))) ?_
    obtain ⟨Lw79, X79w, N79w⟩ := ownPack X78 N78
    obtain ⟨cq80, kq80, q80a, q80b, q80c⟩ := isOf hZ e78 F56_171
    obtain ⟨_, _, ⟨T80, L80, k80, n80⟩, -, X80, S80, sg80, ⟨Lc80, hQ80, l80, y80, z80⟩, st80⟩ := X79w.virtualBackS hx (y := (⟨"com/example/attributes_to_claims/attributestoclaims/cli/CommandArguments$Option", "quoted", "()Ljava/lang/String;"⟩ : MethodName)) (z := (⟨"com/example/attributes_to_claims/attributestoclaims/cli/CommandArguments$Option", "quoted", "()Ljava/lang/String;"⟩ : MethodName)) hown (mvT hZ (Wd hw 154 rfl)) (mvT hZ (Wd hw 155 rfl)) (notFace_of_selects (args := #[]) (mvT hZ (Wd hw 157 rfl))) (mvT hZ (Wd hw 157 rfl)) (mvT hZ (Wd hw 156 rfl)) (by decide) (ownBackS (W := 0) (I := fun vm => IB Z vm ["x", ""]) (rm26_p l Z a0 hw [] r54 lv54 t54 kt54 rn54 r1 t1 kt1 (own_b0 p2) (own_b1 p2) w0 rE rL eL kL nZ h56 h56.size (Nat.le_refl _) F56_171 F56_172 F56_173 F56_175 F56_176 F56_177 F56_178 F56_179 F56_159 F56_160 F56_161 F56_162 O56 (Nat.le_trans hz Z56) St rfl hcQ hcw) hZ (fun vm q => hI.warm q) (Wd hw 158 rfl) (Wd hw 37 rfl) (by decide) (by decide)) q80a q80c (g := (mkF m 271 #[si p1, si p2, si p3, si p4, si (2 : Int32), sr r1, sr r3, sr r5, sr b50, sr r54, sr rn54] [(.ref r54)])) rfl (by rw [hml]; rfl) (Steps.refl _) (argsL := []) (rest := []) (lenOf pd_29 rfl) rfl (by show 2 * 0 + _ ≤ _; exact Nat.le_of_eq rfl) (hb hby at_271) (fun _ _ => ⟨rfl, e78, (by decide : 16 + 6 ≤ _), (by decide : 43 + 36 ≤ _)⟩)
    dsimp only [Pt.U, Pt.locs, Pt.cells, Pt.slots] at X80 l80 y80 z80 st80 hQ80 S80 sg80
    subst l80 y80 z80
    obtain ⟨X80f, hS80, hZ80, hown80⟩ := rebS hS hk X80 S80 (by rw [← e78]; exact sg80) hZ hown
    have X80 := X80f
    have hS := hS80
    have hZ := hZ80
    have hown := hown80
    have hk : T80.heap.size ≤ T80.heap.size := Nat.le_refl _
    obtain ⟨r80, t80, kt80, rfl, N80q, gr80, zr80, Kc80, Ec80, Cc80, Vq80, Vc80⟩ := hQ80
    have N80q : Fr n0 _ := fun y q => Nat.le_trans Z56 (N80q y q)
    have gr80 : n0 ≤ r80 := Nat.le_trans Z56 gr80
    have lt_r1_r80 : r1 < r80 := Nat.lt_of_lt_of_le F56_159.lt zr80
    have lt_t1_r80 : t1 < r80 := Nat.lt_of_lt_of_le F56_162.lt zr80
    have lt_r3_r80 : r3 < r80 := Nat.lt_of_lt_of_le F56_163.lt zr80
    have lt_t3_r80 : t3 < r80 := Nat.lt_of_lt_of_le F56_166.lt zr80
    have lt_r5_r80 : r5 < r80 := Nat.lt_of_lt_of_le F56_167.lt zr80
    have lt_t5_r80 : t5 < r80 := Nat.lt_of_lt_of_le F56_170.lt zr80
    have lt_r54_r80 : r54 < r80 := Nat.lt_of_lt_of_le F56_171.lt zr80
    have lt_lv54_r80 : lv54 < r80 := Nat.lt_of_lt_of_le F56_175.lt zr80
    have lt_t54_r80 : t54 < r80 := Nat.lt_of_lt_of_le F56_177.lt zr80
    have lt_rn54_r80 : rn54 < r80 := Nat.lt_of_lt_of_le F56_178.lt zr80
    have lt_la55_r80 : la55 < r80 := Nat.lt_of_lt_of_le F56_181.lt zr80
    have lt_b50_r80 : b50 < r80 := Nat.lt_of_lt_of_le V56.lt zr80
    have sz_r80 : h0.size ≤ r80 := Nat.le_trans K56.1 zr80
    have F80_327 := F56_159.keep Kc80
    have F80_328 := F56_160.keep Kc80 List.not_mem_nil
    have F80_329 := F56_161.keep Kc80 List.not_mem_nil
    have F80_330 := F56_162.keep Kc80 List.not_mem_nil
    have F80_331 := F56_163.keep Kc80
    have F80_332 := F56_164.keep Kc80 List.not_mem_nil
    have F80_333 := F56_165.keep Kc80 List.not_mem_nil
    have F80_334 := F56_166.keep Kc80 List.not_mem_nil
    have F80_335 := F56_167.keep Kc80
    have F80_336 := F56_168.keep Kc80 List.not_mem_nil
    have F80_337 := F56_169.keep Kc80 List.not_mem_nil
    have F80_338 := F56_170.keep Kc80 List.not_mem_nil
    have F80_339 := F56_171.keep Kc80
    have F80_340 := F56_172.keep Kc80 List.not_mem_nil
    have F80_341 := F56_173.keep Kc80 List.not_mem_nil
    have F80_342 := F56_174.keep Kc80 List.not_mem_nil
    have F80_343 := F56_175.keep Kc80
    have F80_344 := F56_176.keep Kc80 List.not_mem_nil
    have F80_345 := F56_177.keep Kc80 List.not_mem_nil
    have F80_346 := F56_178.keep Kc80
    have F80_347 := F56_179.keep Kc80 List.not_mem_nil
    have F80_348 := F56_180.keep Kc80 List.not_mem_nil
    have F80_349 := F56_181.keep Kc80
    have F80_350 := V56.keep Kc80 List.not_mem_nil
    have K80 : Keep h0 T80.heap [] := K56.trans Kc80 (fun x hx => nomatch hx)
    have Z80 : n0 ≤ T80.heap.size := Nat.le_trans Z56 Kc80.1
    have O80 := O56.keep Kc80 (fun x hx => nomatch hx)
    have N80 := Fr.app N79w N80q
    refine Goes.via (next := T80.setTop (mkF m 274 #[si p1, si p2, si p3, si p4, si (2 : Int32), sr r1, sr r3, sr r5, sr b50, sr r54, sr rn54] [(.ref r80)])) (fun t k => st80.trans k) ?_
    refine Goes.via (next := T80.setTop (mkF m 275 #[si p1, si p2, si p3, si p4, si (2 : Int32), sr r1, sr r3, sr r5, sr b50, sr r54, sr rn54] [(.int p2), (.ref r80)])) (fun t k => XS.iloadN X80.here hx rfl (hb hby at_274) rfl k) ?_
    obtain ⟨Lw81, X81w, N81w⟩ := ownPack X80 N80
    obtain ⟨_, _, ⟨T82, L82, k82, n82⟩, -, X82, ⟨Lc82, hQ82, l82, y82, z82⟩, st82⟩ := Jvm.LawKit.callS X81w hx (y := (⟨"com/example/attributes_to_claims/attributestoclaims/cli/OptionFlagPinLaw", "quotedOf", "(I)Ljava/lang/String;"⟩ : MethodName)) hown (mvT hZ (Wd hw 273 rfl)) (mvT hZ (Wd hw 274 rfl)) (mvT hZ (Wd hw 2 rfl)) (mvT hZ (Wd hw 275 rfl)) (by decide) (backOf (W := 1) (rm48 l Z a0 hw [] p2 w0 rE rL eL kL nZ T80.heap n0 Z80 O80 hz St) hZ (Wd hw 275 rfl) (Wd hw 2 rfl) (by decide) (by decide)) (g := (mkF m 275 #[si p1, si p2, si p3, si p4, si (2 : Int32), sr r1, sr r3, sr r5, sr b50, sr r54, sr rn54] [(.int p2), (.ref r80)])) rfl (by rw [hml]; rfl) (argsL := [(.int p2)]) (rest := [(.ref r80)]) (lenOf pd_30 rfl) rfl (by show 2 * 0 + _ ≤ _; exact Nat.le_of_eq rfl) (hb hby at_275) (fun _ _ => ⟨rfl, rfl, (by decide : 22 + 3 ≤ _), (by decide : 79 + 12 ≤ _)⟩)
    dsimp only [Pt.U, Pt.locs, Pt.cells, Pt.slots] at X82 l82 y82 z82 st82 hQ82
    subst l82 y82 z82
    obtain ⟨r82, t82, kt82, rfl, N82q, gr82, zr82, Kc82, Ec82, Cc82, Vq82, Vc82⟩ := hQ82
    have lt_r1_r82 : r1 < r82 := Nat.lt_of_lt_of_le F80_327.lt zr82
    have lt_t1_r82 : t1 < r82 := Nat.lt_of_lt_of_le F80_330.lt zr82
    have lt_r3_r82 : r3 < r82 := Nat.lt_of_lt_of_le F80_331.lt zr82
    have lt_t3_r82 : t3 < r82 := Nat.lt_of_lt_of_le F80_334.lt zr82
    have lt_r5_r82 : r5 < r82 := Nat.lt_of_lt_of_le F80_335.lt zr82
    have lt_t5_r82 : t5 < r82 := Nat.lt_of_lt_of_le F80_338.lt zr82
    have lt_r54_r82 : r54 < r82 := Nat.lt_of_lt_of_le F80_339.lt zr82
    have lt_lv54_r82 : lv54 < r82 := Nat.lt_of_lt_of_le F80_343.lt zr82
    have lt_t54_r82 : t54 < r82 := Nat.lt_of_lt_of_le F80_345.lt zr82
    have lt_rn54_r82 : rn54 < r82 := Nat.lt_of_lt_of_le F80_346.lt zr82
    have lt_la55_r82 : la55 < r82 := Nat.lt_of_lt_of_le F80_349.lt zr82
    have lt_b50_r82 : b50 < r82 := Nat.lt_of_lt_of_le F80_350.lt zr82
    have lt_r80_r82 : r80 < r82 := Nat.lt_of_lt_of_le Ec80.lt zr82
    have lt_t80_r82 : t80 < r82 := Nat.lt_of_lt_of_le Vc80.lt zr82
    have sz_r82 : h0.size ≤ r82 := Nat.le_trans K80.1 zr82
    have F82_377 := F80_327.keep Kc82
    have F82_378 := F80_328.keep Kc82 List.not_mem_nil
    have F82_379 := F80_329.keep Kc82 List.not_mem_nil
    have F82_380 := F80_330.keep Kc82 List.not_mem_nil
    have F82_381 := F80_331.keep Kc82
    have F82_382 := F80_332.keep Kc82 List.not_mem_nil
    have F82_383 := F80_333.keep Kc82 List.not_mem_nil
    have F82_384 := F80_334.keep Kc82 List.not_mem_nil
    have F82_385 := F80_335.keep Kc82
    have F82_386 := F80_336.keep Kc82 List.not_mem_nil
    have F82_387 := F80_337.keep Kc82 List.not_mem_nil
    have F82_388 := F80_338.keep Kc82 List.not_mem_nil
    have F82_389 := F80_339.keep Kc82
    have F82_390 := F80_340.keep Kc82 List.not_mem_nil
    have F82_391 := F80_341.keep Kc82 List.not_mem_nil
    have F82_392 := F80_342.keep Kc82 List.not_mem_nil
    have F82_393 := F80_343.keep Kc82
    have F82_394 := F80_344.keep Kc82 List.not_mem_nil
    have F82_395 := F80_345.keep Kc82 List.not_mem_nil
    have F82_396 := F80_346.keep Kc82
    have F82_397 := F80_347.keep Kc82 List.not_mem_nil
    have F82_398 := F80_348.keep Kc82 List.not_mem_nil
    have F82_399 := F80_349.keep Kc82
    have F82_400 := F80_350.keep Kc82 List.not_mem_nil
    have F82_401 := Ec80.keep Kc82
    have F82_402 := Cc80.keep Kc82 List.not_mem_nil
    have F82_403 := Vq80.keep Kc82 List.not_mem_nil
    have F82_404 := Vc80.keep Kc82 List.not_mem_nil
    have K82 : Keep h0 T82.heap [] := K80.trans Kc82 (fun x hx => nomatch hx)
    have Z82 : n0 ≤ T82.heap.size := Nat.le_trans Z80 Kc82.1
    have O82 := O80.keep Kc82 (fun x hx => nomatch hx)
    have hk := Nat.le_trans hk Kc82.1
    have N82 := Fr.app N81w N82q
    refine Goes.via (next := T82.setTop (mkF m 278 #[si p1, si p2, si p3, si p4, si (2 : Int32), sr r1, sr r3, sr r5, sr b50, sr r54, sr rn54] [(.ref r82), (.ref r80)])) st82 ?_
    obtain ⟨Lw83, X83w, N83w⟩ := ownPack X82 N82
    obtain ⟨cq84, kq84, q84a, q84b, q84c⟩ := isOf hZ rfl F82_401
    obtain ⟨_, _, ⟨T84, L84, k84, n84⟩, -, X84, ⟨Lc84, hQ84, l84, y84, z84⟩, st84⟩ := X83w.virtualBack hx (y := (⟨"java/lang/String", "equals", "(Ljava/lang/Object;)Z"⟩ : MethodName)) (z := (⟨"java/lang/String", "equals", "(Ljava/lang/Object;)Z"⟩ : MethodName)) hown (mvT hZ (Wd hw 149 rfl)) (mvT hZ (Wd hw 150 rfl)) (notFace_of_selects (args := #[]) (mvT hZ (Wd hw 152 rfl))) (mvT hZ (Wd hw 152 rfl)) (mvT hZ (Wd hw 151 rfl)) (by decide) (backOf (W := 0) (rm25_c l Z a0 hw [] r80 r82 t80 t82 kt80 kt82 (39 : Int32) (own_b0 p2) (own_b1 p2) (39 : Int32) w0 rE rL eL kL nZ T82.heap n0 Z82 F82_401 F82_402 F82_403 F82_404 Ec82 Cc82 Vq82 Vc82 (Nat.ne_of_lt lt_r80_r82) O82 hz St) hZ (Wd hw 153 rfl) (Wd hw 6 rfl) (by decide) (by decide)) q84a q84c (g := (mkF m 278 #[si p1, si p2, si p3, si p4, si (2 : Int32), sr r1, sr r3, sr r5, sr b50, sr r54, sr rn54] [(.ref r82), (.ref r80)])) rfl (by rw [hml]; rfl) (Steps.refl _) (argsL := [(.ref r82)]) (rest := []) (lenOf pd_33 rfl) rfl (by show 2 * 0 + _ ≤ _; exact Nat.le_of_eq rfl) (hb hby at_278) (fun _ _ => ⟨rfl, rfl, (by decide : 25 + 0 ≤ _), (by decide : 91 + 0 ≤ _)⟩)
    dsimp only [Pt.U, Pt.locs, Pt.cells, Pt.slots] at X84 l84 y84 z84 st84 hQ84
    subst l84 y84 z84
    obtain ⟨rfl, N84q, er84⟩ := hQ84
    have e84 : T84.heap = T82.heap := er84
    have N84 := Fr.app N83w N84q
    refine Goes.via (next := T84.setTop (mkF m 281 #[si p1, si p2, si p3, si p4, si (2 : Int32), sr r1, sr r3, sr r5, sr b50, sr r54, sr rn54] [(.int (1 : Int32))])) (fun t k => st84.trans k) ?_
    refine Goes.via (next := T84.setTop (mkF m 286 #[si p1, si p2, si p3, si p4, si (2 : Int32), sr r1, sr r3, sr r5, sr b50, sr r54, sr rn54] [])) (fun t k => XS.ifYes X84.here hx rfl (pc0 := 281) (pc' := 286) rfl (hb hby at_281) rfl ((if0 _ _).trans (feq (show ¬ ((1 : Int32) = (0 : Int32)) from (by decide))).2) (by decide) (by decide) k) ?_
    refine Goes.via (next := T84.setTop (mkF m 287 #[si p1, si p2, si p3, si p4, si (2 : Int32), sr r1, sr r3, sr r5, sr b50, sr r54, sr rn54] [(.int (1 : Int32))])) (fun t k => XS.iconst X84.here hx rfl (hb hby at_286) k) ?_
    obtain ⟨fs, hr, hrun, hended, hRE⟩ := X84.leaveW hS (by rw [e84]; exact hk) (v := some (.int (1 : Int32))) (fun h => by rw [Bd.returns] at h; cases h)
    refine ⟨_, _, ?_, hrun, hended, _, _, rfl, ?_, hRE.1, hRE.2.1, hRE.2.2.1, hRE.2.2.2.mono (by decide) (by decide)⟩
    · exact retN X84 hx (t := .boolean) Bd.returns (by simp) (hb hby at_287) hr
    · show Q0 Z  h0 n0 _ T84.heap _ _
      rw [e84]
      exact ⟨rfl, N84⟩
  · rw [hl]
    show Goes p e below (T5.setTop (mkF m 25 #[si p1, si p2, si p3, si p4, si (3 : Int32), sr r1, sr r3, sr r5, .unset, .unset, .unset] [(.int (3 : Int32))])) _
    refine Goes.via (next := T5.setTop (mkF m 37 #[si p1, si p2, si p3, si p4, si (3 : Int32), sr r1, sr r3, sr r5, .unset, .unset, .unset] [])) (fun t k => XS.ifYes X5.here hx rfl (pc0 := 25) (pc' := 37) rfl (hb hby at_25) rfl ((if0 _ _).trans (feq (show ¬ ((3 : Int32) = (0 : Int32)) from (by decide))).2) (by decide) (by decide) k) ?_
    refine Goes.via (next := T5.setTop (mkF m 82 #[si p1, si p2, si p3, si p4, si (3 : Int32), sr r1, sr r3, sr r5, .unset, .unset, .unset] [])) (fun t k => XS.iload X5.here hx rfl (hb hby at_37) rfl (XS.iconst X5.here hx rfl (hb hby at_39) (XS.icmpYes X5.here hx rfl (pc0 := 40) (pc' := 57) rfl (hb hby at_40) rfl (feq (show ¬ ((3 : Int32) = (1 : Int32)) from (by decide))).2 (by decide) (by decide) (XS.iload X5.here hx rfl (hb hby at_57) rfl (XS.iconst X5.here hx rfl (hb hby at_59) (XS.icmpYes X5.here hx rfl (pc0 := 60) (pc' := 82) rfl (hb hby at_60) rfl (feq (show ¬ ((3 : Int32) = (2 : Int32)) from (by decide))).2 (by decide) (by decide) k)))))) ?_
    refine Goes.via (next := T5.setTop (mkF m 83 #[si p1, si p2, si p3, si p4, si (3 : Int32), sr r1, sr r3, sr r5, .unset, .unset, .unset] [(.int (3 : Int32))])) (fun t k => XS.iconst X5.here hx rfl (hb hby at_82) k) ?_
    obtain ⟨T85, h85, ka85, X85, e85, E85, A85, Ov85, st85⟩ := newR X5 hx hZ hown (Wd hw 4 rfl) (Wd hw 34 rfl) rfl (g := (mkF m 83 #[si p1, si p2, si p3, si p4, si (3 : Int32), sr r1, sr r3, sr r5, .unset, .unset, .unset] [(.int (3 : Int32))])) rfl (hb hby at_83) rfl (by decide) (cap := 3) (by decide) (by decide) (by decide) (by decide)
    obtain ⟨b85, g85⟩ : ∃ z, z = T5.heap.size := ⟨_, rfl⟩
    rw [← g85] at A85 st85
    have lt_r1_b85 : r1 < b85 := Nat.lt_of_lt_of_le F5_42.lt (Nat.le_of_eq g85.symm)
    have lt_t1_b85 : t1 < b85 := Nat.lt_of_lt_of_le F5_45.lt (Nat.le_of_eq g85.symm)
    have lt_r3_b85 : r3 < b85 := Nat.lt_of_lt_of_le F5_46.lt (Nat.le_of_eq g85.symm)
    have lt_t3_b85 : t3 < b85 := Nat.lt_of_lt_of_le F5_49.lt (Nat.le_of_eq g85.symm)
    have lt_r5_b85 : r5 < b85 := Nat.lt_of_lt_of_le Ec5.lt (Nat.le_of_eq g85.symm)
    have lt_t5_b85 : t5 < b85 := Nat.lt_of_lt_of_le Vc5.lt (Nat.le_of_eq g85.symm)
    have ge_b85 : n0 ≤ b85 := Nat.le_trans Z5 (Nat.le_of_eq g85.symm)
    have sz_b85 : h0.size ≤ b85 := Nat.le_trans K5.1 (Nat.le_of_eq g85.symm)
    have F85_14 := F5_42.ext E85
    have F85_15 := F5_43.ext E85
    have F85_16 := F5_44.ext E85
    have F85_17 := F5_45.ext E85
    have F85_18 := F5_46.ext E85
    have F85_19 := F5_47.ext E85
    have F85_20 := F5_48.ext E85
    have F85_21 := F5_49.ext E85
    have F85_22 := Ec5.ext E85
    have F85_23 := Cc5.ext E85
    have F85_24 := Vq5.ext E85
    have F85_25 := Vc5.ext E85
    have K85 : Keep h0 h85 [] := K5.ext E85
    have Z85 : n0 ≤ h85.size := Nat.le_trans Z5 E85.1
    have O85 := O5.ext E85
    have hk := Nat.le_trans hk E85.1
    have V85 : Arv Z h85 b85 ka85 (.object "java/lang/String") (3 : Int32) [.null, .null, .null] .null := (Arv.new A85 (by decide)).pad (pad_rep [] .null 3)
    refine Goes.via (next := T85.setTop (mkF m 86 #[si p1, si p2, si p3, si p4, si (3 : Int32), sr r1, sr r3, sr r5, .unset, .unset, .unset] [(.ref b85)])) st85 ?_
    refine Goes.via (next := T85.setTop (mkF m 90 #[si p1, si p2, si p3, si p4, si (3 : Int32), sr r1, sr r3, sr r5, .unset, .unset, .unset] [(.ref r1), (.int (0 : Int32)), (.ref b85), (.ref b85)])) (fun t k => XS.dup X85.here hx rfl (hb hby at_86) rfl rfl (XS.iconst X85.here hx rfl (hb hby at_87) (XS.aload X85.here hx rfl (hb hby at_88) rfl rfl k))) ?_
    obtain ⟨cl86, Ar86, qa86, Sa86, Na86, Ha86, Ga86⟩ := V85
    have hin86 : ¬ ((0 : Int32) < 0 ∨ cl86.slots.size ≤ ((0 : Int32)).toNatClampNeg) := inb_of Sa86 ⟨by decide, by decide⟩
    obtain ⟨T86, h86, X86, e86, W86, st86⟩ := stR X85 hx hZ e85 Ar86 (j := (0 : Int32)) hin86 rfl (Sto.ofV Ar86 qa86 Ov85 (Ins.self F85_14)) (g := (mkF m 90 #[si p1, si p2, si p3, si p4, si (3 : Int32), sr r1, sr r3, sr r5, .unset, .unset, .unset] [(.ref r1), (.int (0 : Int32)), (.ref b85), (.ref b85)])) rfl rfl (hb hby at_90)
    have V86 : Arv Z h86 b85 ka85 (.object "java/lang/String") (3 : Int32) [(.ref r1), .null, .null] .null := Arv.set Ar86 qa86 Sa86 Na86 Ha86 Ga86 rfl W86 0 rfl (Nat.le_of_ble_eq_true rfl)
    have F86_37 := F85_14.wr W86
    have F86_38 := F85_15.other W86 (Or.inl (Nat.ne_of_lt lt_r1_b85))
    have F86_39 := F85_16.other W86 (Or.inl (Nat.ne_of_lt lt_r1_b85))
    have F86_40 := F85_17.other W86 (Nat.ne_of_lt lt_t1_b85)
    have F86_41 := F85_18.wr W86
    have F86_42 := F85_19.other W86 (Or.inl (Nat.ne_of_lt lt_r3_b85))
    have F86_43 := F85_20.other W86 (Or.inl (Nat.ne_of_lt lt_r3_b85))
    have F86_44 := F85_21.other W86 (Nat.ne_of_lt lt_t3_b85)
    have F86_45 := F85_22.wr W86
    have F86_46 := F85_23.other W86 (Or.inl (Nat.ne_of_lt lt_r5_b85))
    have F86_47 := F85_24.other W86 (Or.inl (Nat.ne_of_lt lt_r5_b85))
    have F86_48 := F85_25.other W86 (Nat.ne_of_lt lt_t5_b85)
    have K86 : Keep h0 h86 [] := K85.wr W86 (Or.inr sz_b85)
    have Z86 : n0 ≤ h86.size := Nat.le_trans Z85 (Keep.of_wr W86).1
    have N86 := Fr.snoc X86 N5 ge_b85
    have O86 := O85.wr W86 (Nat.le_trans hz ge_b85)
    have hk := Nat.le_trans hk (Keep.of_wr W86).1
    refine Goes.via (next := T86.setTop (mkF m 91 #[si p1, si p2, si p3, si p4, si (3 : Int32), sr r1, sr r3, sr r5, .unset, .unset, .unset] [(.ref b85)])) st86 ?_
    refine Goes.via (next := T86.setTop (mkF m 95 #[si p1, si p2, si p3, si p4, si (3 : Int32), sr r1, sr r3, sr r5, .unset, .unset, .unset] [(.ref r3), (.int (1 : Int32)), (.ref b85), (.ref b85)])) (fun t k => XS.dup X86.here hx rfl (hb hby at_91) rfl rfl (XS.iconst X86.here hx rfl (hb hby at_92) (XS.aload X86.here hx rfl (hb hby at_93) rfl rfl k))) ?_
    obtain ⟨cl87, Ar87, qa87, Sa87, Na87, Ha87, Ga87⟩ := V86
    have hin87 : ¬ ((1 : Int32) < 0 ∨ cl87.slots.size ≤ ((1 : Int32)).toNatClampNeg) := inb_of Sa87 ⟨by decide, by decide⟩
    obtain ⟨T87, h87, X87, e87, W87, st87⟩ := stR X86 hx hZ e86 Ar87 (j := (1 : Int32)) hin87 rfl (Sto.ofV Ar87 qa87 Ov85 (Ins.self F86_41)) (g := (mkF m 95 #[si p1, si p2, si p3, si p4, si (3 : Int32), sr r1, sr r3, sr r5, .unset, .unset, .unset] [(.ref r3), (.int (1 : Int32)), (.ref b85), (.ref b85)])) rfl rfl (hb hby at_95)
    have V87 : Arv Z h87 b85 ka85 (.object "java/lang/String") (3 : Int32) [(.ref r1), (.ref r3), .null] .null := Arv.set Ar87 qa87 Sa87 Na87 Ha87 Ga87 rfl W87 1 rfl (Nat.le_of_ble_eq_true rfl)
    have F87_60 := F86_37.wr W87
    have F87_61 := F86_38.other W87 (Or.inl (Nat.ne_of_lt lt_r1_b85))
    have F87_62 := F86_39.other W87 (Or.inl (Nat.ne_of_lt lt_r1_b85))
    have F87_63 := F86_40.other W87 (Nat.ne_of_lt lt_t1_b85)
    have F87_64 := F86_41.wr W87
    have F87_65 := F86_42.other W87 (Or.inl (Nat.ne_of_lt lt_r3_b85))
    have F87_66 := F86_43.other W87 (Or.inl (Nat.ne_of_lt lt_r3_b85))
    have F87_67 := F86_44.other W87 (Nat.ne_of_lt lt_t3_b85)
    have F87_68 := F86_45.wr W87
    have F87_69 := F86_46.other W87 (Or.inl (Nat.ne_of_lt lt_r5_b85))
    have F87_70 := F86_47.other W87 (Or.inl (Nat.ne_of_lt lt_r5_b85))
    have F87_71 := F86_48.other W87 (Nat.ne_of_lt lt_t5_b85)
    have K87 : Keep h0 h87 [] := K86.wr W87 (Or.inr sz_b85)
    have Z87 : n0 ≤ h87.size := Nat.le_trans Z86 (Keep.of_wr W87).1
    have N87 := Fr.snoc X87 N86 ge_b85
    have O87 := O86.wr W87 (Nat.le_trans hz ge_b85)
    have hk := Nat.le_trans hk (Keep.of_wr W87).1
    refine Goes.via (next := T87.setTop (mkF m 96 #[si p1, si p2, si p3, si p4, si (3 : Int32), sr r1, sr r3, sr r5, .unset, .unset, .unset] [(.ref b85)])) st87 ?_
    refine Goes.via (next := T87.setTop (mkF m 100 #[si p1, si p2, si p3, si p4, si (3 : Int32), sr r1, sr r3, sr r5, .unset, .unset, .unset] [(.ref r5), (.int (2 : Int32)), (.ref b85), (.ref b85)])) (fun t k => XS.dup X87.here hx rfl (hb hby at_96) rfl rfl (XS.iconst X87.here hx rfl (hb hby at_97) (XS.aload X87.here hx rfl (hb hby at_98) rfl rfl k))) ?_
    obtain ⟨cl88, Ar88, qa88, Sa88, Na88, Ha88, Ga88⟩ := V87
    have hin88 : ¬ ((2 : Int32) < 0 ∨ cl88.slots.size ≤ ((2 : Int32)).toNatClampNeg) := inb_of Sa88 ⟨by decide, by decide⟩
    obtain ⟨T88, h88, X88, e88, W88, st88⟩ := stR X87 hx hZ e87 Ar88 (j := (2 : Int32)) hin88 rfl (Sto.ofV Ar88 qa88 Ov85 (Ins.self F87_68)) (g := (mkF m 100 #[si p1, si p2, si p3, si p4, si (3 : Int32), sr r1, sr r3, sr r5, .unset, .unset, .unset] [(.ref r5), (.int (2 : Int32)), (.ref b85), (.ref b85)])) rfl rfl (hb hby at_100)
    have V88 : Arv Z h88 b85 ka85 (.object "java/lang/String") (3 : Int32) [(.ref r1), (.ref r3), (.ref r5)] .null := Arv.set Ar88 qa88 Sa88 Na88 Ha88 Ga88 rfl W88 2 rfl (Nat.le_of_ble_eq_true rfl)
    have F88_83 := F87_60.wr W88
    have F88_84 := F87_61.other W88 (Or.inl (Nat.ne_of_lt lt_r1_b85))
    have F88_85 := F87_62.other W88 (Or.inl (Nat.ne_of_lt lt_r1_b85))
    have F88_86 := F87_63.other W88 (Nat.ne_of_lt lt_t1_b85)
    have F88_87 := F87_64.wr W88
    have F88_88 := F87_65.other W88 (Or.inl (Nat.ne_of_lt lt_r3_b85))
    have F88_89 := F87_66.other W88 (Or.inl (Nat.ne_of_lt lt_r3_b85))
    have F88_90 := F87_67.other W88 (Nat.ne_of_lt lt_t3_b85)
    have F88_91 := F87_68.wr W88
    have F88_92 := F87_69.other W88 (Or.inl (Nat.ne_of_lt lt_r5_b85))
    have F88_93 := F87_70.other W88 (Or.inl (Nat.ne_of_lt lt_r5_b85))
    have F88_94 := F87_71.other W88 (Nat.ne_of_lt lt_t5_b85)
    have K88 : Keep h0 h88 [] := K87.wr W88 (Or.inr sz_b85)
    have Z88 : n0 ≤ h88.size := Nat.le_trans Z87 (Keep.of_wr W88).1
    have N88 := Fr.snoc X88 N87 ge_b85
    have O88 := O87.wr W88 (Nat.le_trans hz ge_b85)
    have hk := Nat.le_trans hk (Keep.of_wr W88).1
    refine Goes.via (next := T88.setTop (mkF m 101 #[si p1, si p2, si p3, si p4, si (3 : Int32), sr r1, sr r3, sr r5, .unset, .unset, .unset] [(.ref b85)])) st88 ?_
    refine Goes.via (next := T88.setTop (mkF m 105 #[si p1, si p2, si p3, si p4, si (3 : Int32), sr r1, sr r3, sr r5, sr b85, .unset, .unset] [(.ref b85)])) (fun t k => XS.astore X88.here hx rfl (hb hby at_101) rfl rfl (l' := #[si p1, si p2, si p3, si p4, si (3 : Int32), sr r1, sr r3, sr r5, sr b85, .unset, .unset]) rfl (XS.aload X88.here hx rfl (hb hby at_103) rfl rfl k)) ?_
    obtain ⟨Lw89, X89w, N89w⟩ := ownPack X88 N88
    obtain ⟨_, _, ⟨T90, L90, k90, n90⟩, -, X90, S90, sg90, ⟨Lc90, hQ90, l90, y90, z90⟩, st90⟩ := callSS X89w hx (y := (⟨"com/example/attributes_to_claims/attributestoclaims/cli/CommandArguments$Option", "flag", "([Ljava/lang/String;)Lcom/example/attributes_to_claims/attributestoclaims/cli/CommandArguments$Option;"⟩ : MethodName)) hown (mvT hZ (Wd hw 35 rfl)) (mvT hZ (Wd hw 36 rfl)) (mvT hZ (Wd hw 37 rfl)) (mvT hZ (Wd hw 38 rfl)) (by decide) (ownBackS (W := 0) (I := fun vm => IB Z vm []) (rm8_3 l Z a0 hw [] b85 r1 r3 r5 ka85 w0 rE rL eL kL nZ h88 h88.size (Nat.le_refl _) V88 F88_83 F88_87 F88_91 O88 (Nat.le_trans hz Z88) St rfl hcE hcw) hZ (fun vm q => hI.warm q) (Wd hw 38 rfl) (Wd hw 37 rfl) (by decide) (by decide)) (g := (mkF m 105 #[si p1, si p2, si p3, si p4, si (3 : Int32), sr r1, sr r3, sr r5, sr b85, .unset, .unset] [(.ref b85)])) rfl (by rw [hml]; rfl) (argsL := [(.ref b85)]) (rest := []) (lenOf pd_31 rfl) rfl (by show 2 * 0 + _ ≤ _; exact Nat.le_of_eq rfl) (hb hby at_105) (fun _ _ => ⟨rfl, e88, (by decide : 10 + 5 ≤ _), (by decide : 27 + 12 ≤ _)⟩)
    dsimp only [Pt.U, Pt.locs, Pt.cells, Pt.slots] at X90 l90 y90 z90 st90 hQ90 S90 sg90
    subst l90 y90 z90
    obtain ⟨X90f, hS90, hZ90, hown90⟩ := rebS hS hk X90 S90 (by rw [← e88]; exact sg90) hZ hown
    have X90 := X90f
    have hS := hS90
    have hZ := hZ90
    have hown := hown90
    have hk : T90.heap.size ≤ T90.heap.size := Nat.le_refl _
    obtain ⟨r90, rn90, lv90, t90, kt90, rfl, N90q, Kc90, Ec90, Fn90, Fl90, Fp90, Ht90, Fv90, El90, Vl90, oI90⟩ := hQ90
    have N90q : Fr n0 _ := fun y q => Nat.le_trans Z88 (N90q y q)
    obtain ⟨zr90, En90, q90, kq90, zq90, Fe90, Ve90⟩ := Ht90
    have lt_r1_rn90 : r1 < rn90 := Nat.lt_of_lt_of_le F88_83.lt zr90
    have lt_t1_rn90 : t1 < rn90 := Nat.lt_of_lt_of_le F88_86.lt zr90
    have lt_r3_rn90 : r3 < rn90 := Nat.lt_of_lt_of_le F88_87.lt zr90
    have lt_t3_rn90 : t3 < rn90 := Nat.lt_of_lt_of_le F88_90.lt zr90
    have lt_r5_rn90 : r5 < rn90 := Nat.lt_of_lt_of_le F88_91.lt zr90
    have lt_t5_rn90 : t5 < rn90 := Nat.lt_of_lt_of_le F88_94.lt zr90
    have lt_b85_rn90 : b85 < rn90 := Nat.lt_of_lt_of_le V88.lt zr90
    have lt_r1_q90 : r1 < q90 := Nat.lt_of_lt_of_le F88_83.lt zq90
    have lt_t1_q90 : t1 < q90 := Nat.lt_of_lt_of_le F88_86.lt zq90
    have lt_r3_q90 : r3 < q90 := Nat.lt_of_lt_of_le F88_87.lt zq90
    have lt_t3_q90 : t3 < q90 := Nat.lt_of_lt_of_le F88_90.lt zq90
    have lt_r5_q90 : r5 < q90 := Nat.lt_of_lt_of_le F88_91.lt zq90
    have lt_t5_q90 : t5 < q90 := Nat.lt_of_lt_of_le F88_94.lt zq90
    have lt_b85_q90 : b85 < q90 := Nat.lt_of_lt_of_le V88.lt zq90
    have F90_129 := F88_83.keep Kc90
    have F90_130 := F88_84.keep Kc90 List.not_mem_nil
    have F90_131 := F88_85.keep Kc90 List.not_mem_nil
    have F90_132 := F88_86.keep Kc90 List.not_mem_nil
    have F90_133 := F88_87.keep Kc90
    have F90_134 := F88_88.keep Kc90 List.not_mem_nil
    have F90_135 := F88_89.keep Kc90 List.not_mem_nil
    have F90_136 := F88_90.keep Kc90 List.not_mem_nil
    have F90_137 := F88_91.keep Kc90
    have F90_138 := F88_92.keep Kc90 List.not_mem_nil
    have F90_139 := F88_93.keep Kc90 List.not_mem_nil
    have F90_140 := F88_94.keep Kc90 List.not_mem_nil
    have F90_141 := V88.keep Kc90 List.not_mem_nil
    have K90 : Keep h0 T90.heap [] := K88.trans Kc90 (fun x hx => nomatch hx)
    have Z90 : n0 ≤ T90.heap.size := Nat.le_trans Z88 Kc90.1
    have O90 := O88.keep Kc90 (fun x hx => nomatch hx)
    have N90 := Fr.app N89w N90q
    have hI := oI90
    have na90 : r90 ≠ b85 := Exa.neArv Ec90 F90_141 (Wd hw 40 rfl)
    have nb90 : lv90 ≠ b85 := Exa.neArv El90 F90_141 (Wd hw 5 rfl)
    have nc90 : t90 ≠ b85 := ownNeLen Vl90 F90_141 (by decide)
    refine Goes.via (next := T90.setTop (mkF m 108 #[si p1, si p2, si p3, si p4, si (3 : Int32), sr r1, sr r3, sr r5, sr b85, .unset, .unset] [(.ref r90)])) (fun t k => st90.trans k) ?_
    refine Goes.via (next := T90.setTop (mkF m 118 #[si p1, si p2, si p3, si p4, si (3 : Int32), sr r1, sr r3, sr r5, sr b85, sr r90, .unset] [(.int (0 : Int32)), (.ref b85)])) (fun t k => XS.astore X90.here hx rfl (hb hby at_108) rfl rfl (l' := #[si p1, si p2, si p3, si p4, si (3 : Int32), sr r1, sr r3, sr r5, sr b85, sr r90, .unset]) rfl (XS.iload X90.here hx rfl (hb hby at_110) rfl (XS.ifNo X90.here hx rfl (hb hby at_112) rfl ((if0 _ _).trans (tlt (show (0 : Int32) < (3 : Int32) from (by decide))).2.2.2) (XS.aload X90.here hx rfl (hb hby at_115) rfl rfl (XS.iconst X90.here hx rfl (hb hby at_117) k))))) ?_
    obtain ⟨la91, T91, h91, kk91, lb91, lk91, X91, e91, E91, S91, hk91, Zw91, ow91, Ex91, Fc91, Fv91, Va91, lta91, ltb91, I91, Lt91, st91⟩ := ldcSVL X90 hx hZ hown (Wd hw 140 rfl) (own_wS hw) rfl hS hk (by rw [hh, ← hn0]; exact N90) (fun b cl q => by rw [hh]; exact O0.2.2 b cl q) hI (by decide) hcX hcw (vs := [(.int (120 : Int32))]) (z := (1 : Int32)) ⟨by decide, by decide⟩ (by decide) (by decide) (g := (mkF m 118 #[si p1, si p2, si p3, si p4, si (3 : Int32), sr r1, sr r3, sr r5, sr b85, sr r90, .unset] [(.int (0 : Int32)), (.ref b85)])) rfl (hb hby at_118) (n := 4) (by decide) (by decide) (by decide) (by decide)
    have F91_153 := F90_129.ext E91
    have F91_154 := F90_130.ext E91
    have F91_155 := F90_131.ext E91
    have F91_156 := F90_132.ext E91
    have F91_157 := F90_133.ext E91
    have F91_158 := F90_134.ext E91
    have F91_159 := F90_135.ext E91
    have F91_160 := F90_136.ext E91
    have F91_161 := F90_137.ext E91
    have F91_162 := F90_138.ext E91
    have F91_163 := F90_139.ext E91
    have F91_164 := F90_140.ext E91
    have F91_165 := F90_141.ext E91
    have F91_166 := Ec90.ext E91
    have F91_167 := Fn90.ext E91
    have F91_168 := Fl90.ext E91
    have F91_169 := Fp90.ext E91
    have F91_170 := El90.ext E91
    have F91_171 := Fv90.ext E91
    have F91_172 := Vl90.ext E91
    have F91_173 := En90.ext E91
    have F91_174 := Fe90.ext E91
    have F91_175 := Ve90.ext E91
    have K91 : Keep h0 h91 [] := K90.ext E91
    have Z91 : n0 ≤ h91.size := Nat.le_trans Z90 E91.1
    have O91 := O90.ext E91
    have hZ := Zw91
    have hown := ow91
    have hS := S91
    have hk := hk91
    have hI := I91
    refine Goes.via (next := T91.setTop (mkF m 120 #[si p1, si p2, si p3, si p4, si (3 : Int32), sr r1, sr r3, sr r5, sr b85, sr r90, .unset] [(.ref la91), (.int (0 : Int32)), (.ref b85)])) st91 ?_
    obtain ⟨cl92, Ar92, qa92, Sa92, Na92, Ha92, Ga92⟩ := F91_165
    have hin92 : ¬ ((0 : Int32) < 0 ∨ cl92.slots.size ≤ ((0 : Int32)).toNatClampNeg) := inb_of Sa92 ⟨by decide, by decide⟩
    obtain ⟨T92, h92, X92, e92, W92, st92⟩ := stR X91 hx hZ e91 Ar92 (j := (0 : Int32)) hin92 rfl (Sto.ofV Ar92 qa92 Ov85 (Ins.self Ex91)) (g := (mkF m 120 #[si p1, si p2, si p3, si p4, si (3 : Int32), sr r1, sr r3, sr r5, sr b85, sr r90, .unset] [(.ref la91), (.int (0 : Int32)), (.ref b85)])) rfl rfl (hb hby at_120)
    have V92 : Arv Z h92 b85 ka85 (.object "java/lang/String") (3 : Int32) [(.ref la91), (.ref r3), (.ref r5)] .null := Arv.set Ar92 qa92 Sa92 Na92 Ha92 Ga92 rfl W92 0 rfl (Nat.le_of_ble_eq_true rfl)
    have F92_189 := F91_153.wr W92
    have F92_190 := F91_154.other W92 (Or.inl (Nat.ne_of_lt lt_r1_b85))
    have F92_191 := F91_155.other W92 (Or.inl (Nat.ne_of_lt lt_r1_b85))
    have F92_192 := F91_156.other W92 (Nat.ne_of_lt lt_t1_b85)
    have F92_193 := F91_157.wr W92
    have F92_194 := F91_158.other W92 (Or.inl (Nat.ne_of_lt lt_r3_b85))
    have F92_195 := F91_159.other W92 (Or.inl (Nat.ne_of_lt lt_r3_b85))
    have F92_196 := F91_160.other W92 (Nat.ne_of_lt lt_t3_b85)
    have F92_197 := F91_161.wr W92
    have F92_198 := F91_162.other W92 (Or.inl (Nat.ne_of_lt lt_r5_b85))
    have F92_199 := F91_163.other W92 (Or.inl (Nat.ne_of_lt lt_r5_b85))
    have F92_200 := F91_164.other W92 (Nat.ne_of_lt lt_t5_b85)
    have F92_201 := F91_166.wr W92
    have F92_202 := F91_167.other W92 (Or.inl na90)
    have F92_203 := F91_168.other W92 (Or.inl na90)
    have F92_204 := F91_169.other W92 (Or.inl na90)
    have F92_205 := F91_170.wr W92
    have F92_206 := F91_171.other W92 (Or.inl nb90)
    have F92_207 := F91_172.other W92 nc90
    have F92_208 := F91_173.wr W92
    have F92_209 := F91_174.other W92 (Or.inl (Nat.ne_of_gt lt_b85_rn90))
    have F92_210 := F91_175.other W92 (Nat.ne_of_gt lt_b85_q90)
    have F92_211 := Ex91.wr W92
    have K92 : Keep h0 h92 [] := K91.wr W92 (Or.inr sz_b85)
    have Z92 : n0 ≤ h92.size := Nat.le_trans Z91 (Keep.of_wr W92).1
    have N92 := Fr.snoc X92 N90 ge_b85
    have O92 := O91.wr W92 (Nat.le_trans hz ge_b85)
    have hk := Nat.le_trans hk (Keep.of_wr W92).1
    refine Goes.via (next := T92.setTop (mkF m 121 #[si p1, si p2, si p3, si p4, si (3 : Int32), sr r1, sr r3, sr r5, sr b85, sr r90, .unset] [])) st92 ?_
    refine Goes.via (next := T92.setTop (mkF m 123 #[si p1, si p2, si p3, si p4, si (3 : Int32), sr r1, sr r3, sr r5, sr b85, sr r90, .unset] [(.ref r90)])) (fun t k => XS.aload X92.here hx rfl (hb hby at_121) rfl rfl k) ?_
    refine Goes.via (next := T92.setTop (mkF m 128 #[si p1, si p2, si p3, si p4, si (3 : Int32), sr r1, sr r3, sr r5, sr b85, sr r90, .unset] [])) (fun t k => XS.ifnonnullYes X92.here hx rfl (pc0 := 123) (pc' := 128) rfl (hb hby at_123) rfl (by decide) (by decide) k) ?_
    refine Goes.via (next := T92.setTop (mkF m 130 #[si p1, si p2, si p3, si p4, si (3 : Int32), sr r1, sr r3, sr r5, sr b85, sr r90, .unset] [(.ref r90)])) (fun t k => XS.aload X92.here hx rfl (hb hby at_128) rfl rfl k) ?_
    obtain ⟨Lw93, X93w, N93w⟩ := ownPack X92 N92
    obtain ⟨cq94, kq94, q94a, q94b, q94c⟩ := isOf hZ e92 F92_201
    obtain ⟨_, _, ⟨T94, L94, k94, n94⟩, -, X94, ⟨Lc94, hQ94, l94, y94, z94⟩, st94⟩ := X93w.virtualBack hx (y := (⟨"com/example/attributes_to_claims/attributestoclaims/cli/CommandArguments$Option", "names", "()Ljava/util/List;"⟩ : MethodName)) (z := (⟨"com/example/attributes_to_claims/attributestoclaims/cli/CommandArguments$Option", "names", "()Ljava/util/List;"⟩ : MethodName)) hown (mvT hZ (Wd hw 65 rfl)) (mvT hZ (Wd hw 66 rfl)) (notFace_of_selects (args := #[]) (mvT hZ (Wd hw 68 rfl))) (mvT hZ (Wd hw 68 rfl)) (mvT hZ (Wd hw 67 rfl)) (by decide) (backOf (W := 0) (rm12 l Z a0 hw [] r90 rn90 h92 n0 Z92 F92_202) hZ (Wd hw 69 rfl) (Wd hw 37 rfl) (by decide) (by decide)) q94a q94c (g := (mkF m 130 #[si p1, si p2, si p3, si p4, si (3 : Int32), sr r1, sr r3, sr r5, sr b85, sr r90, .unset] [(.ref r90)])) rfl (by rw [hml]; rfl) (Steps.refl _) (argsL := []) (rest := []) (lenOf pd_32 rfl) rfl (by show 2 * 0 + _ ≤ _; exact Nat.le_of_eq rfl) (hb hby at_130) (fun _ _ => ⟨rfl, e92, (by decide : 17 + 0 ≤ _), (by decide : 47 + 0 ≤ _)⟩)
    dsimp only [Pt.U, Pt.locs, Pt.cells, Pt.slots] at X94 l94 y94 z94 st94 hQ94
    subst l94 y94 z94
    obtain ⟨rfl, N94q, er94⟩ := hQ94
    have e94 : T94.heap = h92 := er94
    have N94 := Fr.app N93w N94q
    refine Goes.via (next := T94.setTop (mkF m 133 #[si p1, si p2, si p3, si p4, si (3 : Int32), sr r1, sr r3, sr r5, sr b85, sr r90, .unset] [(.ref rn90)])) (fun t k => st94.trans k) ?_
    refine Goes.via (next := T94.setTop (mkF m 137 #[si p1, si p2, si p3, si p4, si (3 : Int32), sr r1, sr r3, sr r5, sr b85, sr r90, sr rn90] [(.ref rn90)])) (fun t k => XS.astore X94.here hx rfl (hb hby at_133) rfl rfl (l' := #[si p1, si p2, si p3, si p4, si (3 : Int32), sr r1, sr r3, sr r5, sr b85, sr r90, sr rn90]) rfl (XS.aload X94.here hx rfl (hb hby at_135) rfl rfl k)) ?_
    obtain ⟨Lw95, X95w, N95w⟩ := ownPack X94 N94
    obtain ⟨cq96, kq96, q96a, q96b, q96c⟩ := isOf hZ e94 F92_208
    obtain ⟨_, _, ⟨T96, L96, k96, n96⟩, -, X96, ⟨Lc96, hQ96, l96, y96, z96⟩, st96⟩ := X95w.interfaceBack hx (xi := (⟨"java/util/List", "size", "()I"⟩ : MethodName)) (y := (⟨"java/util/ImmutableCollections$ListN", "size", "()I"⟩ : MethodName)) hown (mvT hZ (Wd hw 70 rfl)) (mvT hZ (Wd hw 71 rfl)) (mvT hZ (Wd hw 72 rfl)) (mvT hZ (Wd hw 73 rfl)) (mvT hZ (Wd hw 74 rfl)) (mvT hZ (Wd hw 75 rfl)) (mvT hZ (Wd hw 76 rfl)) (mvT hZ (Wd hw 77 rfl)) (by decide) (backOf (W := 0) (rm13_3 l Z a0 hw [] rn90 q90 kq90 r1 r3 r5 h92 n0 Z92 F92_209 F92_210) hZ (Wd hw 79 rfl) (Wd hw 78 rfl) (by decide) (by decide)) q96a q96b q96c (g := (mkF m 137 #[si p1, si p2, si p3, si p4, si (3 : Int32), sr r1, sr r3, sr r5, sr b85, sr r90, sr rn90] [(.ref rn90)])) rfl (by rw [hml]; rfl) (Steps.refl _) (argsL := []) (rest := []) (lenOf pd_16 rfl) rfl (by show 2 * 0 + _ ≤ _; exact Nat.le_of_eq rfl) (hb hby at_137) (fun _ _ => ⟨rfl, e94, (by decide : 17 + 0 ≤ _), (by decide : 47 + 0 ≤ _)⟩)
    dsimp only [Pt.U, Pt.locs, Pt.cells, Pt.slots] at X96 l96 y96 z96 st96 hQ96
    subst l96 y96 z96
    obtain ⟨rfl, N96q, er96⟩ := hQ96
    have e96 : T96.heap = h92 := er96
    have N96 := Fr.app N95w N96q
    refine Goes.via (next := T96.setTop (mkF m 142 #[si p1, si p2, si p3, si p4, si (3 : Int32), sr r1, sr r3, sr r5, sr b85, sr r90, sr rn90] [(.int (3 : Int32))])) (fun t k => st96.trans k) ?_
    refine Goes.via (next := T96.setTop (mkF m 157 #[si p1, si p2, si p3, si p4, si (3 : Int32), sr r1, sr r3, sr r5, sr b85, sr r90, sr rn90] [(.ref rn90)])) (fun t k => XS.iload X96.here hx rfl (hb hby at_142) rfl (XS.icmpYes X96.here hx rfl (pc0 := 144) (pc' := 149) rfl (hb hby at_144) rfl (teq (show (3 : Int32) = (3 : Int32) from rfl)).1 (by decide) (by decide) (XS.iload X96.here hx rfl (hb hby at_149) rfl (XS.iconst X96.here hx rfl (hb hby at_151) (XS.icmpNo X96.here hx rfl (hb hby at_152) rfl (flt (show ¬ ((3 : Int32) < (1 : Int32)) from (by decide))).1 (XS.aload X96.here hx rfl (hb hby at_155) rfl rfl k)))))) ?_
    refine Goes.via (next := T96.setTop (mkF m 158 #[si p1, si p2, si p3, si p4, si (3 : Int32), sr r1, sr r3, sr r5, sr b85, sr r90, sr rn90] [(.int (0 : Int32)), (.ref rn90)])) (fun t k => XS.iconst X96.here hx rfl (hb hby at_157) k) ?_
    obtain ⟨Lw97, X97w, N97w⟩ := ownPack X96 N96
    obtain ⟨cq98, kq98, q98a, q98b, q98c⟩ := isOf hZ e96 F92_208
    obtain ⟨_, _, ⟨T98, L98, k98, n98⟩, -, X98, ⟨Lc98, hQ98, l98, y98, z98⟩, st98⟩ := X97w.interfaceBack hx (xi := (⟨"java/util/List", "get", "(I)Ljava/lang/Object;"⟩ : MethodName)) (y := (⟨"java/util/ImmutableCollections$ListN", "get", "(I)Ljava/lang/Object;"⟩ : MethodName)) hown (mvT hZ (Wd hw 141 rfl)) (mvT hZ (Wd hw 142 rfl)) (mvT hZ (Wd hw 143 rfl)) (mvT hZ (Wd hw 144 rfl)) (mvT hZ (Wd hw 145 rfl)) (mvT hZ (Wd hw 146 rfl)) (mvT hZ (Wd hw 147 rfl)) (mvT hZ (Wd hw 77 rfl)) (by decide) (backOf (W := 0) (rm24_0 l Z a0 hw [] rn90 q90 kq90 r1 r3 r5 h92 n0 Z92 F92_209 F92_210) hZ (Wd hw 148 rfl) (Wd hw 78 rfl) (by decide) (by decide)) q98a q98b q98c (g := (mkF m 158 #[si p1, si p2, si p3, si p4, si (3 : Int32), sr r1, sr r3, sr r5, sr b85, sr r90, sr rn90] [(.int (0 : Int32)), (.ref rn90)])) rfl (by rw [hml]; rfl) (Steps.refl _) (argsL := [(.int (0 : Int32))]) (rest := []) (lenOf pd_28 rfl) rfl (by show 2 * 0 + _ ≤ _; exact Nat.le_of_eq rfl) (hb hby at_158) (fun _ _ => ⟨rfl, e96, (by decide : 17 + 0 ≤ _), (by decide : 47 + 0 ≤ _)⟩)
    dsimp only [Pt.U, Pt.locs, Pt.cells, Pt.slots] at X98 l98 y98 z98 st98 hQ98
    subst l98 y98 z98
    obtain ⟨rfl, N98q, er98⟩ := hQ98
    have e98 : T98.heap = h92 := er98
    have N98 := Fr.app N97w N98q
    refine Goes.via (next := T98.setTop (mkF m 163 #[si p1, si p2, si p3, si p4, si (3 : Int32), sr r1, sr r3, sr r5, sr b85, sr r90, sr rn90] [(.ref r1)])) (fun t k => st98.trans k) ?_
    obtain ⟨T99, X99, e99, st99⟩ := castY X98 hx hZ hown (Wd hw 4 rfl) e98 (Ins.self F92_189) (g := (mkF m 163 #[si p1, si p2, si p3, si p4, si (3 : Int32), sr r1, sr r3, sr r5, sr b85, sr r90, sr rn90] [(.ref r1)])) rfl rfl (hb hby at_163)
    refine Goes.via (next := T99.setTop (mkF m 166 #[si p1, si p2, si p3, si p4, si (3 : Int32), sr r1, sr r3, sr r5, sr b85, sr r90, sr rn90] [(.ref r1)])) st99 ?_
    refine Goes.via (next := T99.setTop (mkF m 168 #[si p1, si p2, si p3, si p4, si (3 : Int32), sr r1, sr r3, sr r5, sr b85, sr r90, sr rn90] [(.ref r1), (.ref r1)])) (fun t k => XS.aload X99.here hx rfl (hb hby at_166) rfl rfl k) ?_
    obtain ⟨Lw100, X100w, N100w⟩ := ownPack X99 N98
    obtain ⟨cq101, kq101, q101a, q101b, q101c⟩ := isOf hZ e99 F92_189
    obtain ⟨_, _, ⟨T101, L101, k101, n101⟩, -, X101, ⟨Lc101, hQ101, l101, y101, z101⟩, st101⟩ := X100w.virtualBack hx (y := (⟨"java/lang/String", "equals", "(Ljava/lang/Object;)Z"⟩ : MethodName)) (z := (⟨"java/lang/String", "equals", "(Ljava/lang/Object;)Z"⟩ : MethodName)) hown (mvT hZ (Wd hw 149 rfl)) (mvT hZ (Wd hw 150 rfl)) (notFace_of_selects (args := #[]) (mvT hZ (Wd hw 152 rfl))) (mvT hZ (Wd hw 152 rfl)) (mvT hZ (Wd hw 151 rfl)) (by decide) (backOf (W := 0) (rm25_s l Z a0 hw [] r1  h92 n0 Z92 ) hZ (Wd hw 153 rfl) (Wd hw 6 rfl) (by decide) (by decide)) q101a q101c (g := (mkF m 168 #[si p1, si p2, si p3, si p4, si (3 : Int32), sr r1, sr r3, sr r5, sr b85, sr r90, sr rn90] [(.ref r1), (.ref r1)])) rfl (by rw [hml]; rfl) (Steps.refl _) (argsL := [(.ref r1)]) (rest := []) (lenOf pd_33 rfl) rfl (by show 2 * 0 + _ ≤ _; exact Nat.le_of_eq rfl) (hb hby at_168) (fun _ _ => ⟨rfl, e99, (by decide : 17 + 0 ≤ _), (by decide : 47 + 0 ≤ _)⟩)
    dsimp only [Pt.U, Pt.locs, Pt.cells, Pt.slots] at X101 l101 y101 z101 st101 hQ101
    subst l101 y101 z101
    obtain ⟨rfl, N101q, er101⟩ := hQ101
    have e101 : T101.heap = h92 := er101
    have N101 := Fr.app N100w N101q
    refine Goes.via (next := T101.setTop (mkF m 171 #[si p1, si p2, si p3, si p4, si (3 : Int32), sr r1, sr r3, sr r5, sr b85, sr r90, sr rn90] [(.int (1 : Int32))])) (fun t k => st101.trans k) ?_
    refine Goes.via (next := T101.setTop (mkF m 176 #[si p1, si p2, si p3, si p4, si (3 : Int32), sr r1, sr r3, sr r5, sr b85, sr r90, sr rn90] [])) (fun t k => XS.ifYes X101.here hx rfl (pc0 := 171) (pc' := 176) rfl (hb hby at_171) rfl ((if0 _ _).trans (feq (show ¬ ((1 : Int32) = (0 : Int32)) from (by decide))).2) (by decide) (by decide) k) ?_
    refine Goes.via (next := T101.setTop (mkF m 185 #[si p1, si p2, si p3, si p4, si (3 : Int32), sr r1, sr r3, sr r5, sr b85, sr r90, sr rn90] [(.int (1 : Int32)), (.ref rn90)])) (fun t k => XS.iload X101.here hx rfl (hb hby at_176) rfl (XS.iconst X101.here hx rfl (hb hby at_178) (XS.icmpNo X101.here hx rfl (hb hby at_179) rfl (flt (show ¬ ((3 : Int32) < (2 : Int32)) from (by decide))).1 (XS.aload X101.here hx rfl (hb hby at_182) rfl rfl (XS.iconst X101.here hx rfl (hb hby at_184) k))))) ?_
    obtain ⟨Lw102, X102w, N102w⟩ := ownPack X101 N101
    obtain ⟨cq103, kq103, q103a, q103b, q103c⟩ := isOf hZ e101 F92_208
    obtain ⟨_, _, ⟨T103, L103, k103, n103⟩, -, X103, ⟨Lc103, hQ103, l103, y103, z103⟩, st103⟩ := X102w.interfaceBack hx (xi := (⟨"java/util/List", "get", "(I)Ljava/lang/Object;"⟩ : MethodName)) (y := (⟨"java/util/ImmutableCollections$ListN", "get", "(I)Ljava/lang/Object;"⟩ : MethodName)) hown (mvT hZ (Wd hw 141 rfl)) (mvT hZ (Wd hw 142 rfl)) (mvT hZ (Wd hw 143 rfl)) (mvT hZ (Wd hw 144 rfl)) (mvT hZ (Wd hw 145 rfl)) (mvT hZ (Wd hw 146 rfl)) (mvT hZ (Wd hw 147 rfl)) (mvT hZ (Wd hw 77 rfl)) (by decide) (backOf (W := 0) (rm24_1 l Z a0 hw [] rn90 q90 kq90 r1 r3 r5 h92 n0 Z92 F92_209 F92_210) hZ (Wd hw 148 rfl) (Wd hw 78 rfl) (by decide) (by decide)) q103a q103b q103c (g := (mkF m 185 #[si p1, si p2, si p3, si p4, si (3 : Int32), sr r1, sr r3, sr r5, sr b85, sr r90, sr rn90] [(.int (1 : Int32)), (.ref rn90)])) rfl (by rw [hml]; rfl) (Steps.refl _) (argsL := [(.int (1 : Int32))]) (rest := []) (lenOf pd_28 rfl) rfl (by show 2 * 0 + _ ≤ _; exact Nat.le_of_eq rfl) (hb hby at_185) (fun _ _ => ⟨rfl, e101, (by decide : 17 + 0 ≤ _), (by decide : 47 + 0 ≤ _)⟩)
    dsimp only [Pt.U, Pt.locs, Pt.cells, Pt.slots] at X103 l103 y103 z103 st103 hQ103
    subst l103 y103 z103
    obtain ⟨rfl, N103q, er103⟩ := hQ103
    have e103 : T103.heap = h92 := er103
    have N103 := Fr.app N102w N103q
    refine Goes.via (next := T103.setTop (mkF m 190 #[si p1, si p2, si p3, si p4, si (3 : Int32), sr r1, sr r3, sr r5, sr b85, sr r90, sr rn90] [(.ref r3)])) (fun t k => st103.trans k) ?_
    obtain ⟨T104, X104, e104, st104⟩ := castY X103 hx hZ hown (Wd hw 4 rfl) e103 (Ins.self F92_193) (g := (mkF m 190 #[si p1, si p2, si p3, si p4, si (3 : Int32), sr r1, sr r3, sr r5, sr b85, sr r90, sr rn90] [(.ref r3)])) rfl rfl (hb hby at_190)
    refine Goes.via (next := T104.setTop (mkF m 193 #[si p1, si p2, si p3, si p4, si (3 : Int32), sr r1, sr r3, sr r5, sr b85, sr r90, sr rn90] [(.ref r3)])) st104 ?_
    refine Goes.via (next := T104.setTop (mkF m 195 #[si p1, si p2, si p3, si p4, si (3 : Int32), sr r1, sr r3, sr r5, sr b85, sr r90, sr rn90] [(.ref r3), (.ref r3)])) (fun t k => XS.aload X104.here hx rfl (hb hby at_193) rfl rfl k) ?_
    obtain ⟨Lw105, X105w, N105w⟩ := ownPack X104 N103
    obtain ⟨cq106, kq106, q106a, q106b, q106c⟩ := isOf hZ e104 F92_193
    obtain ⟨_, _, ⟨T106, L106, k106, n106⟩, -, X106, ⟨Lc106, hQ106, l106, y106, z106⟩, st106⟩ := X105w.virtualBack hx (y := (⟨"java/lang/String", "equals", "(Ljava/lang/Object;)Z"⟩ : MethodName)) (z := (⟨"java/lang/String", "equals", "(Ljava/lang/Object;)Z"⟩ : MethodName)) hown (mvT hZ (Wd hw 149 rfl)) (mvT hZ (Wd hw 150 rfl)) (notFace_of_selects (args := #[]) (mvT hZ (Wd hw 152 rfl))) (mvT hZ (Wd hw 152 rfl)) (mvT hZ (Wd hw 151 rfl)) (by decide) (backOf (W := 0) (rm25_s l Z a0 hw [] r3  h92 n0 Z92 ) hZ (Wd hw 153 rfl) (Wd hw 6 rfl) (by decide) (by decide)) q106a q106c (g := (mkF m 195 #[si p1, si p2, si p3, si p4, si (3 : Int32), sr r1, sr r3, sr r5, sr b85, sr r90, sr rn90] [(.ref r3), (.ref r3)])) rfl (by rw [hml]; rfl) (Steps.refl _) (argsL := [(.ref r3)]) (rest := []) (lenOf pd_33 rfl) rfl (by show 2 * 0 + _ ≤ _; exact Nat.le_of_eq rfl) (hb hby at_195) (fun _ _ => ⟨rfl, e104, (by decide : 17 + 0 ≤ _), (by decide : 47 + 0 ≤ _)⟩)
    dsimp only [Pt.U, Pt.locs, Pt.cells, Pt.slots] at X106 l106 y106 z106 st106 hQ106
    subst l106 y106 z106
    obtain ⟨rfl, N106q, er106⟩ := hQ106
    have e106 : T106.heap = h92 := er106
    have N106 := Fr.app N105w N106q
    refine Goes.via (next := T106.setTop (mkF m 198 #[si p1, si p2, si p3, si p4, si (3 : Int32), sr r1, sr r3, sr r5, sr b85, sr r90, sr rn90] [(.int (1 : Int32))])) (fun t k => st106.trans k) ?_
    refine Goes.via (next := T106.setTop (mkF m 203 #[si p1, si p2, si p3, si p4, si (3 : Int32), sr r1, sr r3, sr r5, sr b85, sr r90, sr rn90] [])) (fun t k => XS.ifYes X106.here hx rfl (pc0 := 198) (pc' := 203) rfl (hb hby at_198) rfl ((if0 _ _).trans (feq (show ¬ ((1 : Int32) = (0 : Int32)) from (by decide))).2) (by decide) (by decide) k) ?_
    refine Goes.via (next := T106.setTop (mkF m 212 #[si p1, si p2, si p3, si p4, si (3 : Int32), sr r1, sr r3, sr r5, sr b85, sr r90, sr rn90] [(.int (2 : Int32)), (.ref rn90)])) (fun t k => XS.iload X106.here hx rfl (hb hby at_203) rfl (XS.iconst X106.here hx rfl (hb hby at_205) (XS.icmpNo X106.here hx rfl (hb hby at_206) rfl (flt (show ¬ ((3 : Int32) < (3 : Int32)) from (by decide))).1 (XS.aload X106.here hx rfl (hb hby at_209) rfl rfl (XS.iconst X106.here hx rfl (hb hby at_211) k))))) ?_
    obtain ⟨Lw107, X107w, N107w⟩ := ownPack X106 N106
    obtain ⟨cq108, kq108, q108a, q108b, q108c⟩ := isOf hZ e106 F92_208
    obtain ⟨_, _, ⟨T108, L108, k108, n108⟩, -, X108, ⟨Lc108, hQ108, l108, y108, z108⟩, st108⟩ := X107w.interfaceBack hx (xi := (⟨"java/util/List", "get", "(I)Ljava/lang/Object;"⟩ : MethodName)) (y := (⟨"java/util/ImmutableCollections$ListN", "get", "(I)Ljava/lang/Object;"⟩ : MethodName)) hown (mvT hZ (Wd hw 141 rfl)) (mvT hZ (Wd hw 142 rfl)) (mvT hZ (Wd hw 143 rfl)) (mvT hZ (Wd hw 144 rfl)) (mvT hZ (Wd hw 145 rfl)) (mvT hZ (Wd hw 146 rfl)) (mvT hZ (Wd hw 147 rfl)) (mvT hZ (Wd hw 77 rfl)) (by decide) (backOf (W := 0) (rm24_2 l Z a0 hw [] rn90 q90 kq90 r1 r3 r5 h92 n0 Z92 F92_209 F92_210) hZ (Wd hw 148 rfl) (Wd hw 78 rfl) (by decide) (by decide)) q108a q108b q108c (g := (mkF m 212 #[si p1, si p2, si p3, si p4, si (3 : Int32), sr r1, sr r3, sr r5, sr b85, sr r90, sr rn90] [(.int (2 : Int32)), (.ref rn90)])) rfl (by rw [hml]; rfl) (Steps.refl _) (argsL := [(.int (2 : Int32))]) (rest := []) (lenOf pd_28 rfl) rfl (by show 2 * 0 + _ ≤ _; exact Nat.le_of_eq rfl) (hb hby at_212) (fun _ _ => ⟨rfl, e106, (by decide : 17 + 0 ≤ _), (by decide : 47 + 0 ≤ _)⟩)
    dsimp only [Pt.U, Pt.locs, Pt.cells, Pt.slots] at X108 l108 y108 z108 st108 hQ108
    subst l108 y108 z108
    obtain ⟨rfl, N108q, er108⟩ := hQ108
    have e108 : T108.heap = h92 := er108
    have N108 := Fr.app N107w N108q
    refine Goes.via (next := T108.setTop (mkF m 217 #[si p1, si p2, si p3, si p4, si (3 : Int32), sr r1, sr r3, sr r5, sr b85, sr r90, sr rn90] [(.ref r5)])) (fun t k => st108.trans k) ?_
    obtain ⟨T109, X109, e109, st109⟩ := castY X108 hx hZ hown (Wd hw 4 rfl) e108 (Ins.self F92_197) (g := (mkF m 217 #[si p1, si p2, si p3, si p4, si (3 : Int32), sr r1, sr r3, sr r5, sr b85, sr r90, sr rn90] [(.ref r5)])) rfl rfl (hb hby at_217)
    refine Goes.via (next := T109.setTop (mkF m 220 #[si p1, si p2, si p3, si p4, si (3 : Int32), sr r1, sr r3, sr r5, sr b85, sr r90, sr rn90] [(.ref r5)])) st109 ?_
    refine Goes.via (next := T109.setTop (mkF m 222 #[si p1, si p2, si p3, si p4, si (3 : Int32), sr r1, sr r3, sr r5, sr b85, sr r90, sr rn90] [(.ref r5), (.ref r5)])) (fun t k => XS.aload X109.here hx rfl (hb hby at_220) rfl rfl k) ?_
    obtain ⟨Lw110, X110w, N110w⟩ := ownPack X109 N108
    obtain ⟨cq111, kq111, q111a, q111b, q111c⟩ := isOf hZ e109 F92_197
    obtain ⟨_, _, ⟨T111, L111, k111, n111⟩, -, X111, ⟨Lc111, hQ111, l111, y111, z111⟩, st111⟩ := X110w.virtualBack hx (y := (⟨"java/lang/String", "equals", "(Ljava/lang/Object;)Z"⟩ : MethodName)) (z := (⟨"java/lang/String", "equals", "(Ljava/lang/Object;)Z"⟩ : MethodName)) hown (mvT hZ (Wd hw 149 rfl)) (mvT hZ (Wd hw 150 rfl)) (notFace_of_selects (args := #[]) (mvT hZ (Wd hw 152 rfl))) (mvT hZ (Wd hw 152 rfl)) (mvT hZ (Wd hw 151 rfl)) (by decide) (backOf (W := 0) (rm25_s l Z a0 hw [] r5  h92 n0 Z92 ) hZ (Wd hw 153 rfl) (Wd hw 6 rfl) (by decide) (by decide)) q111a q111c (g := (mkF m 222 #[si p1, si p2, si p3, si p4, si (3 : Int32), sr r1, sr r3, sr r5, sr b85, sr r90, sr rn90] [(.ref r5), (.ref r5)])) rfl (by rw [hml]; rfl) (Steps.refl _) (argsL := [(.ref r5)]) (rest := []) (lenOf pd_33 rfl) rfl (by show 2 * 0 + _ ≤ _; exact Nat.le_of_eq rfl) (hb hby at_222) (fun _ _ => ⟨rfl, e109, (by decide : 17 + 0 ≤ _), (by decide : 47 + 0 ≤ _)⟩)
    dsimp only [Pt.U, Pt.locs, Pt.cells, Pt.slots] at X111 l111 y111 z111 st111 hQ111
    subst l111 y111 z111
    obtain ⟨rfl, N111q, er111⟩ := hQ111
    have e111 : T111.heap = h92 := er111
    have N111 := Fr.app N110w N111q
    refine Goes.via (next := T111.setTop (mkF m 225 #[si p1, si p2, si p3, si p4, si (3 : Int32), sr r1, sr r3, sr r5, sr b85, sr r90, sr rn90] [(.int (1 : Int32))])) (fun t k => st111.trans k) ?_
    refine Goes.via (next := T111.setTop (mkF m 230 #[si p1, si p2, si p3, si p4, si (3 : Int32), sr r1, sr r3, sr r5, sr b85, sr r90, sr rn90] [])) (fun t k => XS.ifYes X111.here hx rfl (pc0 := 225) (pc' := 230) rfl (hb hby at_225) rfl ((if0 _ _).trans (feq (show ¬ ((1 : Int32) = (0 : Int32)) from (by decide))).2) (by decide) (by decide) k) ?_
    refine Goes.via (next := T111.setTop (mkF m 232 #[si p1, si p2, si p3, si p4, si (3 : Int32), sr r1, sr r3, sr r5, sr b85, sr r90, sr rn90] [(.ref r90)])) (fun t k => XS.aload X111.here hx rfl (hb hby at_230) rfl rfl k) ?_
    obtain ⟨Lw112, X112w, N112w⟩ := ownPack X111 N111
    obtain ⟨cq113, kq113, q113a, q113b, q113c⟩ := isOf hZ e111 F92_201
    obtain ⟨_, _, ⟨T113, L113, k113, n113⟩, -, X113, ⟨Lc113, hQ113, l113, y113, z113⟩, st113⟩ := X112w.virtualBack hx (y := (⟨"com/example/attributes_to_claims/attributestoclaims/cli/CommandArguments$Option", "label", "()Ljava/lang/String;"⟩ : MethodName)) (z := (⟨"com/example/attributes_to_claims/attributestoclaims/cli/CommandArguments$Option", "label", "()Ljava/lang/String;"⟩ : MethodName)) hown (mvT hZ (Wd hw 82 rfl)) (mvT hZ (Wd hw 83 rfl)) (notFace_of_selects (args := #[]) (mvT hZ (Wd hw 85 rfl))) (mvT hZ (Wd hw 85 rfl)) (mvT hZ (Wd hw 84 rfl)) (by decide) (backOf (W := 0) (rm14 l Z a0 hw [] r90 lv90 h92 n0 Z92 F92_203) hZ (Wd hw 86 rfl) (Wd hw 37 rfl) (by decide) (by decide)) q113a q113c (g := (mkF m 232 #[si p1, si p2, si p3, si p4, si (3 : Int32), sr r1, sr r3, sr r5, sr b85, sr r90, sr rn90] [(.ref r90)])) rfl (by rw [hml]; rfl) (Steps.refl _) (argsL := []) (rest := []) (lenOf pd_29 rfl) rfl (by show 2 * 0 + _ ≤ _; exact Nat.le_of_eq rfl) (hb hby at_232) (fun _ _ => ⟨rfl, e111, (by decide : 17 + 0 ≤ _), (by decide : 47 + 0 ≤ _)⟩)
    dsimp only [Pt.U, Pt.locs, Pt.cells, Pt.slots] at X113 l113 y113 z113 st113 hQ113
    subst l113 y113 z113
    obtain ⟨rfl, N113q, er113⟩ := hQ113
    have e113 : T113.heap = h92 := er113
    have N113 := Fr.app N112w N113q
    refine Goes.via (next := T113.setTop (mkF m 235 #[si p1, si p2, si p3, si p4, si (3 : Int32), sr r1, sr r3, sr r5, sr b85, sr r90, sr rn90] [(.ref lv90)])) (fun t k => st113.trans k) ?_
    obtain ⟨Lw114, X114w, N114w⟩ := ownPack X113 N113
    obtain ⟨cq115, kq115, q115a, q115b, q115c⟩ := isOf hZ e113 F92_205
    obtain ⟨_, _, ⟨T115, L115, k115, n115⟩, -, X115, ⟨Lc115, hQ115, l115, y115, z115⟩, st115⟩ := X114w.virtualBack hx (y := (⟨"java/lang/String", "isEmpty", "()Z"⟩ : MethodName)) (z := (⟨"java/lang/String", "isEmpty", "()Z"⟩ : MethodName)) hown (mvT hZ (Wd hw 87 rfl)) (mvT hZ (Wd hw 88 rfl)) (notFace_of_selects (args := #[]) (mvT hZ (Wd hw 90 rfl))) (mvT hZ (Wd hw 90 rfl)) (mvT hZ (Wd hw 89 rfl)) (by decide) (backOf (W := 0) (rm15 l Z a0 hw [] lv90 t90 kt90 h92 n0 Z92 F92_206 F92_207) hZ (Wd hw 91 rfl) (Wd hw 6 rfl) (by decide) (by decide)) q115a q115c (g := (mkF m 235 #[si p1, si p2, si p3, si p4, si (3 : Int32), sr r1, sr r3, sr r5, sr b85, sr r90, sr rn90] [(.ref lv90)])) rfl (by rw [hml]; rfl) (Steps.refl _) (argsL := []) (rest := []) (lenOf pd_23 rfl) rfl (by show 2 * 0 + _ ≤ _; exact Nat.le_of_eq rfl) (hb hby at_235) (fun _ _ => ⟨rfl, e113, (by decide : 17 + 0 ≤ _), (by decide : 47 + 0 ≤ _)⟩)
    dsimp only [Pt.U, Pt.locs, Pt.cells, Pt.slots] at X115 l115 y115 z115 st115 hQ115
    subst l115 y115 z115
    obtain ⟨rfl, N115q, er115⟩ := hQ115
    have e115 : T115.heap = h92 := er115
    have N115 := Fr.app N114w N115q
    refine Goes.via (next := T115.setTop (mkF m 238 #[si p1, si p2, si p3, si p4, si (3 : Int32), sr r1, sr r3, sr r5, sr b85, sr r90, sr rn90] [(.int (1 : Int32))])) (fun t k => st115.trans k) ?_
    refine Goes.via (next := T115.setTop (mkF m 243 #[si p1, si p2, si p3, si p4, si (3 : Int32), sr r1, sr r3, sr r5, sr b85, sr r90, sr rn90] [])) (fun t k => XS.ifYes X115.here hx rfl (pc0 := 238) (pc' := 243) rfl (hb hby at_238) rfl ((if0 _ _).trans (feq (show ¬ ((1 : Int32) = (0 : Int32)) from (by decide))).2) (by decide) (by decide) k) ?_
    refine Goes.via (next := T115.setTop (mkF m 245 #[si p1, si p2, si p3, si p4, si (3 : Int32), sr r1, sr r3, sr r5, sr b85, sr r90, sr rn90] [(.ref r90)])) (fun t k => XS.aload X115.here hx rfl (hb hby at_243) rfl rfl k) ?_
    obtain ⟨Lw116, X116w, N116w⟩ := ownPack X115 N115
    obtain ⟨cq117, kq117, q117a, q117b, q117c⟩ := isOf hZ e115 F92_201
    obtain ⟨_, _, ⟨T117, L117, k117, n117⟩, -, X117, ⟨Lc117, hQ117, l117, y117, z117⟩, st117⟩ := X116w.virtualBack hx (y := (⟨"com/example/attributes_to_claims/attributestoclaims/cli/CommandArguments$Option", "repeatable", "()Z"⟩ : MethodName)) (z := (⟨"com/example/attributes_to_claims/attributestoclaims/cli/CommandArguments$Option", "repeatable", "()Z"⟩ : MethodName)) hown (mvT hZ (Wd hw 92 rfl)) (mvT hZ (Wd hw 93 rfl)) (notFace_of_selects (args := #[]) (mvT hZ (Wd hw 95 rfl))) (mvT hZ (Wd hw 95 rfl)) (mvT hZ (Wd hw 94 rfl)) (by decide) (backOf (W := 0) (rm16 l Z a0 hw [] r90  h92 n0 Z92 F92_204) hZ (Wd hw 96 rfl) (Wd hw 37 rfl) (by decide) (by decide)) q117a q117c (g := (mkF m 245 #[si p1, si p2, si p3, si p4, si (3 : Int32), sr r1, sr r3, sr r5, sr b85, sr r90, sr rn90] [(.ref r90)])) rfl (by rw [hml]; rfl) (Steps.refl _) (argsL := []) (rest := []) (lenOf pd_23 rfl) rfl (by show 2 * 0 + _ ≤ _; exact Nat.le_of_eq rfl) (hb hby at_245) (fun _ _ => ⟨rfl, e115, (by decide : 17 + 0 ≤ _), (by decide : 47 + 0 ≤ _)⟩)
    dsimp only [Pt.U, Pt.locs, Pt.cells, Pt.slots] at X117 l117 y117 z117 st117 hQ117
    subst l117 y117 z117
    obtain ⟨rfl, N117q, er117⟩ := hQ117
    have e117 : T117.heap = h92 := er117
    have N117 := Fr.app N116w N117q
    refine Goes.via (next := T117.setTop (mkF m 248 #[si p1, si p2, si p3, si p4, si (3 : Int32), sr r1, sr r3, sr r5, sr b85, sr r90, sr rn90] [(.int (0 : Int32))])) (fun t k => st117.trans k) ?_
    refine Goes.via (next := T117.setTop (mkF m 253 #[si p1, si p2, si p3, si p4, si (3 : Int32), sr r1, sr r3, sr r5, sr b85, sr r90, sr rn90] [])) (fun t k => XS.ifYes X117.here hx rfl (pc0 := 248) (pc' := 253) rfl (hb hby at_248) rfl ((if0 _ _).trans (teq (show (0 : Int32) = (0 : Int32) from rfl)).1) (by decide) (by decide) k) ?_
    refine Goes.via (next := T117.setTop (mkF m 255 #[si p1, si p2, si p3, si p4, si (3 : Int32), sr r1, sr r3, sr r5, sr b85, sr r90, sr rn90] [(.ref r90)])) (fun t k => XS.aload X117.here hx rfl (hb hby at_253) rfl rfl k) ?_
    obtain ⟨Lw118, X118w, N118w⟩ := ownPack X117 N117
    obtain ⟨cq119, kq119, q119a, q119b, q119c⟩ := isOf hZ e117 F92_201
    obtain ⟨_, _, ⟨T119, L119, k119, n119⟩, -, X119, ⟨Lc119, hQ119, l119, y119, z119⟩, st119⟩ := X118w.virtualBack hx (y := (⟨"com/example/attributes_to_claims/attributestoclaims/cli/CommandArguments$Option", "isFlag", "()Z"⟩ : MethodName)) (z := (⟨"com/example/attributes_to_claims/attributestoclaims/cli/CommandArguments$Option", "isFlag", "()Z"⟩ : MethodName)) hown (mvT hZ (Wd hw 97 rfl)) (mvT hZ (Wd hw 98 rfl)) (notFace_of_selects (args := #[]) (mvT hZ (Wd hw 100 rfl))) (mvT hZ (Wd hw 100 rfl)) (mvT hZ (Wd hw 99 rfl)) (by decide) (backOf (W := 0) (rm17 l Z a0 hw [] r90 lv90 t90 kt90 h92 n0 Z92 F92_203 F92_205 F92_206 F92_207) hZ (Wd hw 101 rfl) (Wd hw 37 rfl) (by decide) (by decide)) q119a q119c (g := (mkF m 255 #[si p1, si p2, si p3, si p4, si (3 : Int32), sr r1, sr r3, sr r5, sr b85, sr r90, sr rn90] [(.ref r90)])) rfl (by rw [hml]; rfl) (Steps.refl _) (argsL := []) (rest := []) (lenOf pd_23 rfl) rfl (by show 2 * 0 + _ ≤ _; exact Nat.le_of_eq rfl) (hb hby at_255) (fun _ _ => ⟨rfl, e117, (by decide : 17 + 0 ≤ _), (by decide : 47 + 0 ≤ _)⟩)
    dsimp only [Pt.U, Pt.locs, Pt.cells, Pt.slots] at X119 l119 y119 z119 st119 hQ119
    subst l119 y119 z119
    obtain ⟨rfl, N119q, er119⟩ := hQ119
    have e119 : T119.heap = h92 := er119
    have N119 := Fr.app N118w N119q
    refine Goes.via (next := T119.setTop (mkF m 258 #[si p1, si p2, si p3, si p4, si (3 : Int32), sr r1, sr r3, sr r5, sr b85, sr r90, sr rn90] [(.int (1 : Int32))])) (fun t k => st119.trans k) ?_
    refine Goes.via (next := T119.setTop (mkF m 263 #[si p1, si p2, si p3, si p4, si (3 : Int32), sr r1, sr r3, sr r5, sr b85, sr r90, sr rn90] [])) (fun t k => XS.ifYes X119.here hx rfl (pc0 := 258) (pc' := 263) rfl (hb hby at_258) rfl ((if0 _ _).trans (feq (show ¬ ((1 : Int32) = (0 : Int32)) from (by decide))).2) (by decide) (by decide) k) ?_
    refine Goes.via (next := T119.setTop (mkF m 271 #[si p1, si p2, si p3, si p4, si (3 : Int32), sr r1, sr r3, sr r5, sr b85, sr r90, sr rn90] [(.ref r90)])) (fun t k => XS.iload X119.here hx rfl (hb hby at_263) rfl (XS.iconst X119.here hx rfl (hb hby at_265) (XS.icmpNo X119.here hx rfl (hb hby at_266) rfl (flt (show ¬ ((3 : Int32) < (1 : Int32)) from (by decide))).1 (XS.aload X119.here hx rfl (hb hby at_269) rfl rfl k)))) ?_
    obtain ⟨Lw120, X120w, N120w⟩ := ownPack X119 N119
    obtain ⟨cq121, kq121, q121a, q121b, q121c⟩ := isOf hZ e119 F92_201
    obtain ⟨_, _, ⟨T121, L121, k121, n121⟩, -, X121, S121, sg121, ⟨Lc121, hQ121, l121, y121, z121⟩, st121⟩ := X120w.virtualBackS hx (y := (⟨"com/example/attributes_to_claims/attributestoclaims/cli/CommandArguments$Option", "quoted", "()Ljava/lang/String;"⟩ : MethodName)) (z := (⟨"com/example/attributes_to_claims/attributestoclaims/cli/CommandArguments$Option", "quoted", "()Ljava/lang/String;"⟩ : MethodName)) hown (mvT hZ (Wd hw 154 rfl)) (mvT hZ (Wd hw 155 rfl)) (notFace_of_selects (args := #[]) (mvT hZ (Wd hw 157 rfl))) (mvT hZ (Wd hw 157 rfl)) (mvT hZ (Wd hw 156 rfl)) (by decide) (ownBackS (W := 0) (I := fun vm => IB Z vm ["x", ""]) (rm26_n l Z a0 hw [] r90 lv90 t90 kt90 rn90 q90 kq90 r1 r3 r5 t1 kt1 (own_b0 p2) (own_b1 p2) w0 rE rL eL kL nZ h92 h92.size (Nat.le_refl _) F92_201 F92_202 F92_203 F92_205 F92_206 F92_207 F92_208 F92_209 F92_210 F92_189 F92_190 F92_191 F92_192 O92 (Nat.le_trans hz Z92) St rfl hcQ hcw) hZ (fun vm q => hI.warm q) (Wd hw 158 rfl) (Wd hw 37 rfl) (by decide) (by decide)) q121a q121c (g := (mkF m 271 #[si p1, si p2, si p3, si p4, si (3 : Int32), sr r1, sr r3, sr r5, sr b85, sr r90, sr rn90] [(.ref r90)])) rfl (by rw [hml]; rfl) (Steps.refl _) (argsL := []) (rest := []) (lenOf pd_29 rfl) rfl (by show 2 * 0 + _ ≤ _; exact Nat.le_of_eq rfl) (hb hby at_271) (fun _ _ => ⟨rfl, e119, (by decide : 17 + 6 ≤ _), (by decide : 47 + 36 ≤ _)⟩)
    dsimp only [Pt.U, Pt.locs, Pt.cells, Pt.slots] at X121 l121 y121 z121 st121 hQ121 S121 sg121
    subst l121 y121 z121
    obtain ⟨X121f, hS121, hZ121, hown121⟩ := rebS hS hk X121 S121 (by rw [← e119]; exact sg121) hZ hown
    have X121 := X121f
    have hS := hS121
    have hZ := hZ121
    have hown := hown121
    have hk : T121.heap.size ≤ T121.heap.size := Nat.le_refl _
    obtain ⟨r121, t121, kt121, rfl, N121q, gr121, zr121, Kc121, Ec121, Cc121, Vq121, Vc121⟩ := hQ121
    have N121q : Fr n0 _ := fun y q => Nat.le_trans Z92 (N121q y q)
    have gr121 : n0 ≤ r121 := Nat.le_trans Z92 gr121
    have lt_r1_r121 : r1 < r121 := Nat.lt_of_lt_of_le F92_189.lt zr121
    have lt_t1_r121 : t1 < r121 := Nat.lt_of_lt_of_le F92_192.lt zr121
    have lt_r3_r121 : r3 < r121 := Nat.lt_of_lt_of_le F92_193.lt zr121
    have lt_t3_r121 : t3 < r121 := Nat.lt_of_lt_of_le F92_196.lt zr121
    have lt_r5_r121 : r5 < r121 := Nat.lt_of_lt_of_le F92_197.lt zr121
    have lt_t5_r121 : t5 < r121 := Nat.lt_of_lt_of_le F92_200.lt zr121
    have lt_r90_r121 : r90 < r121 := Nat.lt_of_lt_of_le F92_201.lt zr121
    have lt_lv90_r121 : lv90 < r121 := Nat.lt_of_lt_of_le F92_205.lt zr121
    have lt_t90_r121 : t90 < r121 := Nat.lt_of_lt_of_le F92_207.lt zr121
    have lt_rn90_r121 : rn90 < r121 := Nat.lt_of_lt_of_le F92_208.lt zr121
    have lt_q90_r121 : q90 < r121 := Nat.lt_of_lt_of_le F92_210.lt zr121
    have lt_la91_r121 : la91 < r121 := Nat.lt_of_lt_of_le F92_211.lt zr121
    have lt_b85_r121 : b85 < r121 := Nat.lt_of_lt_of_le V92.lt zr121
    have sz_r121 : h0.size ≤ r121 := Nat.le_trans K92.1 zr121
    have F121_381 := F92_189.keep Kc121
    have F121_382 := F92_190.keep Kc121 List.not_mem_nil
    have F121_383 := F92_191.keep Kc121 List.not_mem_nil
    have F121_384 := F92_192.keep Kc121 List.not_mem_nil
    have F121_385 := F92_193.keep Kc121
    have F121_386 := F92_194.keep Kc121 List.not_mem_nil
    have F121_387 := F92_195.keep Kc121 List.not_mem_nil
    have F121_388 := F92_196.keep Kc121 List.not_mem_nil
    have F121_389 := F92_197.keep Kc121
    have F121_390 := F92_198.keep Kc121 List.not_mem_nil
    have F121_391 := F92_199.keep Kc121 List.not_mem_nil
    have F121_392 := F92_200.keep Kc121 List.not_mem_nil
    have F121_393 := F92_201.keep Kc121
    have F121_394 := F92_202.keep Kc121 List.not_mem_nil
    have F121_395 := F92_203.keep Kc121 List.not_mem_nil
    have F121_396 := F92_204.keep Kc121 List.not_mem_nil
    have F121_397 := F92_205.keep Kc121
    have F121_398 := F92_206.keep Kc121 List.not_mem_nil
    have F121_399 := F92_207.keep Kc121 List.not_mem_nil
    have F121_400 := F92_208.keep Kc121
    have F121_401 := F92_209.keep Kc121 List.not_mem_nil
    have F121_402 := F92_210.keep Kc121 List.not_mem_nil
    have F121_403 := F92_211.keep Kc121
    have F121_404 := V92.keep Kc121 List.not_mem_nil
    have K121 : Keep h0 T121.heap [] := K92.trans Kc121 (fun x hx => nomatch hx)
    have Z121 : n0 ≤ T121.heap.size := Nat.le_trans Z92 Kc121.1
    have O121 := O92.keep Kc121 (fun x hx => nomatch hx)
    have N121 := Fr.app N120w N121q
    refine Goes.via (next := T121.setTop (mkF m 274 #[si p1, si p2, si p3, si p4, si (3 : Int32), sr r1, sr r3, sr r5, sr b85, sr r90, sr rn90] [(.ref r121)])) (fun t k => st121.trans k) ?_
    refine Goes.via (next := T121.setTop (mkF m 275 #[si p1, si p2, si p3, si p4, si (3 : Int32), sr r1, sr r3, sr r5, sr b85, sr r90, sr rn90] [(.int p2), (.ref r121)])) (fun t k => XS.iloadN X121.here hx rfl (hb hby at_274) rfl k) ?_
    obtain ⟨Lw122, X122w, N122w⟩ := ownPack X121 N121
    obtain ⟨_, _, ⟨T123, L123, k123, n123⟩, -, X123, ⟨Lc123, hQ123, l123, y123, z123⟩, st123⟩ := Jvm.LawKit.callS X122w hx (y := (⟨"com/example/attributes_to_claims/attributestoclaims/cli/OptionFlagPinLaw", "quotedOf", "(I)Ljava/lang/String;"⟩ : MethodName)) hown (mvT hZ (Wd hw 273 rfl)) (mvT hZ (Wd hw 274 rfl)) (mvT hZ (Wd hw 2 rfl)) (mvT hZ (Wd hw 275 rfl)) (by decide) (backOf (W := 1) (rm48 l Z a0 hw [] p2 w0 rE rL eL kL nZ T121.heap n0 Z121 O121 hz St) hZ (Wd hw 275 rfl) (Wd hw 2 rfl) (by decide) (by decide)) (g := (mkF m 275 #[si p1, si p2, si p3, si p4, si (3 : Int32), sr r1, sr r3, sr r5, sr b85, sr r90, sr rn90] [(.int p2), (.ref r121)])) rfl (by rw [hml]; rfl) (argsL := [(.int p2)]) (rest := [(.ref r121)]) (lenOf pd_30 rfl) rfl (by show 2 * 0 + _ ≤ _; exact Nat.le_of_eq rfl) (hb hby at_275) (fun _ _ => ⟨rfl, rfl, (by decide : 23 + 3 ≤ _), (by decide : 83 + 12 ≤ _)⟩)
    dsimp only [Pt.U, Pt.locs, Pt.cells, Pt.slots] at X123 l123 y123 z123 st123 hQ123
    subst l123 y123 z123
    obtain ⟨r123, t123, kt123, rfl, N123q, gr123, zr123, Kc123, Ec123, Cc123, Vq123, Vc123⟩ := hQ123
    have lt_r1_r123 : r1 < r123 := Nat.lt_of_lt_of_le F121_381.lt zr123
    have lt_t1_r123 : t1 < r123 := Nat.lt_of_lt_of_le F121_384.lt zr123
    have lt_r3_r123 : r3 < r123 := Nat.lt_of_lt_of_le F121_385.lt zr123
    have lt_t3_r123 : t3 < r123 := Nat.lt_of_lt_of_le F121_388.lt zr123
    have lt_r5_r123 : r5 < r123 := Nat.lt_of_lt_of_le F121_389.lt zr123
    have lt_t5_r123 : t5 < r123 := Nat.lt_of_lt_of_le F121_392.lt zr123
    have lt_r90_r123 : r90 < r123 := Nat.lt_of_lt_of_le F121_393.lt zr123
    have lt_lv90_r123 : lv90 < r123 := Nat.lt_of_lt_of_le F121_397.lt zr123
    have lt_t90_r123 : t90 < r123 := Nat.lt_of_lt_of_le F121_399.lt zr123
    have lt_rn90_r123 : rn90 < r123 := Nat.lt_of_lt_of_le F121_400.lt zr123
    have lt_q90_r123 : q90 < r123 := Nat.lt_of_lt_of_le F121_402.lt zr123
    have lt_la91_r123 : la91 < r123 := Nat.lt_of_lt_of_le F121_403.lt zr123
    have lt_b85_r123 : b85 < r123 := Nat.lt_of_lt_of_le F121_404.lt zr123
    have lt_r121_r123 : r121 < r123 := Nat.lt_of_lt_of_le Ec121.lt zr123
    have lt_t121_r123 : t121 < r123 := Nat.lt_of_lt_of_le Vc121.lt zr123
    have sz_r123 : h0.size ≤ r123 := Nat.le_trans K121.1 zr123
    have F123_432 := F121_381.keep Kc123
    have F123_433 := F121_382.keep Kc123 List.not_mem_nil
    have F123_434 := F121_383.keep Kc123 List.not_mem_nil
    have F123_435 := F121_384.keep Kc123 List.not_mem_nil
    have F123_436 := F121_385.keep Kc123
    have F123_437 := F121_386.keep Kc123 List.not_mem_nil
    have F123_438 := F121_387.keep Kc123 List.not_mem_nil
    have F123_439 := F121_388.keep Kc123 List.not_mem_nil
    have F123_440 := F121_389.keep Kc123
    have F123_441 := F121_390.keep Kc123 List.not_mem_nil
    have F123_442 := F121_391.keep Kc123 List.not_mem_nil
    have F123_443 := F121_392.keep Kc123 List.not_mem_nil
    have F123_444 := F121_393.keep Kc123
    have F123_445 := F121_394.keep Kc123 List.not_mem_nil
    have F123_446 := F121_395.keep Kc123 List.not_mem_nil
    have F123_447 := F121_396.keep Kc123 List.not_mem_nil
    have F123_448 := F121_397.keep Kc123
    have F123_449 := F121_398.keep Kc123 List.not_mem_nil
    have F123_450 := F121_399.keep Kc123 List.not_mem_nil
    have F123_451 := F121_400.keep Kc123
    have F123_452 := F121_401.keep Kc123 List.not_mem_nil
    have F123_453 := F121_402.keep Kc123 List.not_mem_nil
    have F123_454 := F121_403.keep Kc123
    have F123_455 := F121_404.keep Kc123 List.not_mem_nil
    have F123_456 := Ec121.keep Kc123
    have F123_457 := Cc121.keep Kc123 List.not_mem_nil
    have F123_458 := Vq121.keep Kc123 List.not_mem_nil
    have F123_459 := Vc121.keep Kc123 List.not_mem_nil
    have K123 : Keep h0 T123.heap [] := K121.trans Kc123 (fun x hx => nomatch hx)
    have Z123 : n0 ≤ T123.heap.size := Nat.le_trans Z121 Kc123.1
    have O123 := O121.keep Kc123 (fun x hx => nomatch hx)
    have hk := Nat.le_trans hk Kc123.1
    have N123 := Fr.app N122w N123q
    refine Goes.via (next := T123.setTop (mkF m 278 #[si p1, si p2, si p3, si p4, si (3 : Int32), sr r1, sr r3, sr r5, sr b85, sr r90, sr rn90] [(.ref r123), (.ref r121)])) st123 ?_
    obtain ⟨Lw124, X124w, N124w⟩ := ownPack X123 N123
    obtain ⟨cq125, kq125, q125a, q125b, q125c⟩ := isOf hZ rfl F123_456
    obtain ⟨_, _, ⟨T125, L125, k125, n125⟩, -, X125, ⟨Lc125, hQ125, l125, y125, z125⟩, st125⟩ := X124w.virtualBack hx (y := (⟨"java/lang/String", "equals", "(Ljava/lang/Object;)Z"⟩ : MethodName)) (z := (⟨"java/lang/String", "equals", "(Ljava/lang/Object;)Z"⟩ : MethodName)) hown (mvT hZ (Wd hw 149 rfl)) (mvT hZ (Wd hw 150 rfl)) (notFace_of_selects (args := #[]) (mvT hZ (Wd hw 152 rfl))) (mvT hZ (Wd hw 152 rfl)) (mvT hZ (Wd hw 151 rfl)) (by decide) (backOf (W := 0) (rm25_c l Z a0 hw [] r121 r123 t121 t123 kt121 kt123 (39 : Int32) (own_b0 p2) (own_b1 p2) (39 : Int32) w0 rE rL eL kL nZ T123.heap n0 Z123 F123_456 F123_457 F123_458 F123_459 Ec123 Cc123 Vq123 Vc123 (Nat.ne_of_lt lt_r121_r123) O123 hz St) hZ (Wd hw 153 rfl) (Wd hw 6 rfl) (by decide) (by decide)) q125a q125c (g := (mkF m 278 #[si p1, si p2, si p3, si p4, si (3 : Int32), sr r1, sr r3, sr r5, sr b85, sr r90, sr rn90] [(.ref r123), (.ref r121)])) rfl (by rw [hml]; rfl) (Steps.refl _) (argsL := [(.ref r123)]) (rest := []) (lenOf pd_33 rfl) rfl (by show 2 * 0 + _ ≤ _; exact Nat.le_of_eq rfl) (hb hby at_278) (fun _ _ => ⟨rfl, rfl, (by decide : 26 + 0 ≤ _), (by decide : 95 + 0 ≤ _)⟩)
    dsimp only [Pt.U, Pt.locs, Pt.cells, Pt.slots] at X125 l125 y125 z125 st125 hQ125
    subst l125 y125 z125
    obtain ⟨rfl, N125q, er125⟩ := hQ125
    have e125 : T125.heap = T123.heap := er125
    have N125 := Fr.app N124w N125q
    refine Goes.via (next := T125.setTop (mkF m 281 #[si p1, si p2, si p3, si p4, si (3 : Int32), sr r1, sr r3, sr r5, sr b85, sr r90, sr rn90] [(.int (1 : Int32))])) (fun t k => st125.trans k) ?_
    refine Goes.via (next := T125.setTop (mkF m 286 #[si p1, si p2, si p3, si p4, si (3 : Int32), sr r1, sr r3, sr r5, sr b85, sr r90, sr rn90] [])) (fun t k => XS.ifYes X125.here hx rfl (pc0 := 281) (pc' := 286) rfl (hb hby at_281) rfl ((if0 _ _).trans (feq (show ¬ ((1 : Int32) = (0 : Int32)) from (by decide))).2) (by decide) (by decide) k) ?_
    refine Goes.via (next := T125.setTop (mkF m 287 #[si p1, si p2, si p3, si p4, si (3 : Int32), sr r1, sr r3, sr r5, sr b85, sr r90, sr rn90] [(.int (1 : Int32))])) (fun t k => XS.iconst X125.here hx rfl (hb hby at_286) k) ?_
    obtain ⟨fs, hr, hrun, hended, hRE⟩ := X125.leaveW hS (by rw [e125]; exact hk) (v := some (.int (1 : Int32))) (fun h => by rw [Bd.returns] at h; cases h)
    refine ⟨_, _, ?_, hrun, hended, _, _, rfl, ?_, hRE.1, hRE.2.1, hRE.2.2.1, hRE.2.2.2.mono (by decide) (by decide)⟩
    · exact retN X125 hx (t := .boolean) Bd.returns (by simp) (hb hby at_287) hr
    · show Q0 Z  h0 n0 _ T125.heap _ _
      rw [e125]
      exact ⟨rfl, N125⟩
theorem own_isInt {args : Array Value} {s : State} {t : Jvm.Term} {k : Int32} (h : t.eval args s none [] s = some (.int k)) : (Jvm.Cond.isInt t).before args s = true := by
  simp [Cond.before, Cond.holds, Cond.value, h]
set_option maxRecDepth 65536 in
set_option maxHeartbeats 40000000 in
theorem comes_1 {Post : Tables → Env → Array Value → State → Outcome → State → Prop} (hpost : ∀ tb e args s v u, (limb_1_1.after args s (.returned v) u = true ∧ limb_1_2.after args s (.returned v) u = true ∧ True) → ReturnedEndW s (.returned v) u (Jvm.fieldLocs frame_1_writes args s ++ Jvm.arrayLocs frame_1_arrays args s ++ Jvm.staticLocs frame_1_statics s) 56 3328 → Post tb e args s (.returned v) u) :
    ArmFor flags0 classFile x code maxLocals ret World_1 tables_1 room_1 Calls_1 rest_1 Pre_1 Post := by
  intro l hfl _ _ p e ha hc hk s m args below hf hA hF happ hP
  obtain ⟨hcalls, hrest, hpre⟩ := hP
  obtain ⟨-, -, -, hnamed, -, -, -, hat⟩ := (Spec.applies_iff hf).mp happ
  obtain ⟨hg, hn⟩ := and_e (Cond.before_iff.mp (show (Jvm.Cond.and given_1 narrow_1).before args s = true from hpre))
  obtain ⟨g0, r0⟩ := and_e hg
  obtain ⟨w0, w1, w2, w3, rfl⟩ : ∃ w0 w1 w2 w3 : Value, args = #[w0, w1, w2, w3] := by
    have hs : args.size = 4 := by simpa [Cond.value, given_1] using g0
    obtain ⟨L⟩ := args
    match L, hs with
    | [w0, w1, w2, w3], _ => exact ⟨w0, w1, w2, w3, rfl⟩
  have hw := fun d (hd : d ∈ tables_1) => atoms_spec (ws := Jvm.Cond.code x code maxLocals ret :: tables_1) hat d (List.mem_cons_of_mem _ hd)
  obtain ⟨g1, r1⟩ := and_e r0
  obtain ⟨g2, r2⟩ := and_e r1
  obtain ⟨g3, r3⟩ := and_e r2
  have g4 := r3
  obtain ⟨i0, ei0⟩ := is_v g1
  obtain rfl : w0 = (.int i0) := Option.some.inj ei0
  obtain ⟨i1, ei1⟩ := is_v g2
  obtain rfl : w1 = (.int i1) := Option.some.inj ei1
  obtain ⟨i2, ei2⟩ := is_v g3
  obtain rfl : w2 = (.int i2) := Option.some.inj ei2
  obtain ⟨i3, ei3⟩ := is_v g4
  obtain rfl : w3 = (.int i3) := Option.some.inj ei3
  obtain ⟨hsets, hown0⟩ := atoms_of _ (rest_1_c_eq ▸ (show rest_1_c.before _ s = true from hrest))
  have hfit : Fit s := fun {y c} hc i hi => by
    obtain ⟨ha, rfl⟩ := Array.getElem?_eq_some_iff.mp hc
    have q := List.all_eq_true.mp ((Array.all_eq_true_iff_forall_mem.mp hF) _ (Array.getElem_mem ha)) i (List.mem_range.mpr hi)
    simpa [Array.getElem?_eq_getElem hi] using q
  have hcw : Jvm.Lit.compactW.before _ s = true := (hsets _ (List.mem_of_getElem? (i := 2) rfl))
  obtain ⟨w0, ew0⟩ := is_v (Cond.before_iff.mp (hsets _ (List.mem_of_getElem? (i := 1) rfl)))
  have hw0 : ¬ w0 = (0 : Int32) := gotF (Cond.eq_ints ew0 (show (Jvm.Term.int (0 : Int32)).eval _ s none [] s = some (.int 0) from rfl)) (not_v (Cond.before_iff.mp (hsets _ (List.mem_of_getElem? (i := 2) rfl))))
  obtain ⟨rE, evE⟩ := exa_v (Cond.before_iff.mp (hsets _ (List.mem_of_getElem? (i := 18) rfl)))
  have XE := Exa.start evE (Cond.before_iff.mp (hsets _ (List.mem_of_getElem? (i := 18) rfl)))
  obtain ⟨rL, evL⟩ := exa_v (Cond.before_iff.mp (hsets _ (List.mem_of_getElem? (i := 11) rfl)))
  have XL := Exa.start evL (Cond.before_iff.mp (hsets _ (List.mem_of_getElem? (i := 11) rfl)))
  obtain ⟨eL, evF⟩ := exa_v (Cond.before_iff.mp (hsets _ (List.mem_of_getElem? (i := 13) rfl)))
  have FL := Fld.start ((fld_at evL).symm.trans evF)
  obtain ⟨clL, ArL⟩ := Arr.start evF (Cond.before_iff.mp (hsets _ (List.mem_of_getElem? (i := 12) rfl)))
  have hs0 := Cond.small_of_lengthOf evF (Arr.fin (Vm.Alike.refl _) ArL) (own_isInt (eqv_i rfl (Cond.before_iff.mp (hsets _ (List.mem_of_getElem? (i := 14) rfl)))))
  have hl1 := gotT (Cond.eq_ints (len_f evF (Arr.fin (Vm.Alike.refl _) ArL) hs0) (show (Jvm.Term.int (0 : Int32)).eval _ s none [] s = some (.int 0) from rfl)) (Cond.before_iff.mp (hsets _ (List.mem_of_getElem? (i := 14) rfl)))
  have VL : Arv s s.heap eL clL.cls (.object "java/lang/Object") (0 : Int32) [] .null := Arv.start hfit ArL hs0 hl1 (by decide) (by decide) trivial
  have St : own_St s w0 rE rL eL clL.cls := ⟨Sta.start ew0 (Or.inl (hsets _ (List.mem_of_getElem? (i := 0) rfl))), hw0, Sta.start evE (Or.inl (hsets _ (List.mem_of_getElem? (i := 17) rfl))), XE.lt, Sta.start evL (Or.inl (hsets _ (List.mem_of_getElem? (i := 10) rfl))), XL, FL, VL⟩
  have hcE : Jvm.Lit.constHeld s "com/example/attributes_to_claims/attributestoclaims/cli/CommandArguments$Option" 33 := hcalls.1 _ (List.mem_of_getElem? (i := 0) rfl)
  have hcQ : Jvm.Lit.constHeld s "com/example/attributes_to_claims/attributestoclaims/cli/CommandArguments$Option" 44 := hcalls.1 _ (List.mem_of_getElem? (i := 1) rfl)
  have hcX : Jvm.Lit.constHeld s "com/example/attributes_to_claims/attributestoclaims/cli/OptionFlagPinLaw" 24 := hcalls.1 _ (List.mem_of_getElem? (i := 2) rfl)
  obtain ⟨n, o, h1, h2, h3, v, L, rfl, hQ, hq⟩ := rm0 l s _ hw tables_1 i0 i1 i2 i3 w0 rE rL eL clL.cls s.heap.size s.heap s.heap.size (Nat.le_refl _) (Old.start s) (Nat.le_refl _) St rfl hcE hcQ hcX hcw p e ha hc hk s m _ below hf ((Spec.applies_iff_loose hf).mp happ).1 ⟨rfl, State.Warmed39.refl s, rfl, IB.start⟩ trivial
  obtain ⟨hv, N⟩ : v = some (.int 1) ∧ Fr s.heap.size L := hQ
  subst hv
  refine ⟨n, _, h1, h2, h3, hpost _ _ _ _ _ _ ⟨Cond.after_iff.mpr rfl, Cond.after_iff.mpr (eq_i res_at (Term.int_eval (1)) rfl), trivial⟩ ⟨hq.1, hq.2.1, hq.2.2.1, (hq.2.2.2.sift fun y hy => Or.inr (N y hy)).mono (by decide) (by decide)⟩⟩
theorem main_1_1 : Claimed_1_1 := comes_1 fun _ _ _ _ _ _ h hF => ⟨h.1, hF⟩
theorem main_1_2 : Claimed_1_2 := comes_1 fun _ _ _ _ _ _ h hF => ⟨h.2.1, hF⟩
end Jvm.Pilot.@@N@@
namespace Jvm.Pilot.@@N@@
open Jvm Jvm.ClassFile Sem Op Lib Jvm.Free Jvm.Stand Jvm.Pilot.@@N@@.Jvm.D
/-! MADE BY PROGRAM (witnessworld.py) out of the Statement's table words and the real class files: 41 classes; the members and pool entries that the words name. The judged class is class 1, her method 3. -/
namespace start1
open Jvm.ClassFile
def u (s : String) : CpInfo := .utf8 (stringToUtf16 s)
/-- a pool by its gaps: so many unusable entries, then the entry; so many at the end -/
def gap : Nat → List CpInfo → List CpInfo
  | 0, r => r
  | n + 1, r => .unusable :: gap n r
def poolList (es : List (Nat × CpInfo)) (last : Nat) : List CpInfo := es.foldr (fun e r => gap e.1 (e.2 :: r)) (gap last [])
def pool (es : List (Nat × CpInfo)) (last : Nat) : Array CpInfo := ⟨poolList es last⟩
def fileOf (pool : Array CpInfo) (this : Nat) (attrs : Array Attribute := #[]) (ms : Array MethodInfo := #[]) (fl : Nat := 33) (sup : Nat := 0) (ifs : Array Nat := #[]) (fds : Array FieldInfo := #[]) : ClassFile where
  minorVersion := 0
  majorVersion := 65
  constantPool := pool
  accessFlags := fl
  thisClass := this
  superClass := sup
  interfaces := ifs
  fields := fds
  methods := ms
  attributes := attrs
def plain (name : String) (sup : Option ClassId) : Class where
  name := name
  kind := .ordinary
  loader := none
  accessFlags := 33
  super := sup
  interfaces := #[]
  cf := none
  fields := #[]
  methods := #[]
  instanceTypes := #[]
  staticTypes := #[]
  resolved := #[]
  callSites := []
  init := .initialized
  statics := none
  mirror := none

def pool0 : Array CpInfo := pool [(5, u "<init>"), (0, u "()V"), (1, .class_ 10), (1, u "java/lang/Object")] 113

def k0c0 : Code := { maxStack := 0, maxLocals := 1, code := object_method_1_code, exceptionTable := #[], attributes := #[] }
def k0m0 : Method := { name := "<init>", desc := "()V", sig := { parameters := [], returnType := none }, accessFlags := 1, code := some k0c0 }
/-- java/lang/Object -/
def k0 : Class := { plain "java/lang/Object" none with
  accessFlags := 33
  interfaces := #[]
  cf := some (fileOf pool0 8 #[] #[{ accessFlags := 1, nameIndex := 5, descriptorIndex := 6, attributes := #[] }] 33 0 #[] #[])
  fields := #[]
  methods := #[k0m0]
  instanceTypes := #[]
  staticTypes := #[]
  resolved := Array.replicate 124 none
  statics := none }

def pool1 : Array CpInfo := pool [(2, .class_ 4), (1, u "java/lang/Object"), (0, u "<init>"), (0, u "()V"), (0, .class_ 8), (0, u "java/lang/String"), (0, .methodref 7 10), (0, .nameAndType 5 11), (0, u "([C)V"), (0, .methodref 13 14), (0, .class_ 15), (0, .nameAndType 16 17), (0, u "com/example/attributes_to_claims/attributestoclaims/cli/OptionFlagPinLaw"), (0, u "name"), (0, u "(I)Ljava/lang/String;"), (0, .methodref 19 20), (0, .class_ 21), (0, .nameAndType 22 23), (0, u "com/example/attributes_to_claims/attributestoclaims/cli/CommandArguments$Option"), (0, u "flag"), (0, u "([Ljava/lang/String;)Lcom/example/attributes_to_claims/attributestoclaims/cli/CommandArguments$Option;"), (0, .string 25), (0, u "x"), (0, .methodref 19 27), (0, .nameAndType 28 29), (0, u "names"), (0, u "()Ljava/util/List;"), (0, .interfaceMethodref 31 32), (0, .class_ 33), (0, .nameAndType 34 35), (0, u "java/util/List"), (0, u "size"), (0, u "()I"), (0, .interfaceMethodref 31 37), (0, .nameAndType 38 39), (0, u "get"), (0, u "(I)Ljava/lang/Object;"), (0, .methodref 7 41), (0, .nameAndType 42 43), (0, u "equals"), (0, u "(Ljava/lang/Object;)Z"), (0, .methodref 19 45), (0, .nameAndType 46 47), (0, u "label"), (0, u "()Ljava/lang/String;"), (0, .methodref 7 49), (0, .nameAndType 50 51), (0, u "isEmpty"), (0, u "()Z"), (0, .methodref 19 53), (0, .nameAndType 54 51), (0, u "repeatable"), (0, .methodref 19 56), (0, .nameAndType 57 51), (0, u "isFlag"), (0, .methodref 19 59), (0, .nameAndType 60 47), (0, u "quoted"), (0, .methodref 13 62), (0, .nameAndType 63 17), (0, u "quotedOf"), (2, u "law"), (0, u "(IIII)Z")] 9

def k1m0 : Method := { name := "<init>", desc := "()V", sig := { parameters := [], returnType := none }, accessFlags := 1, code := none }
def k1c1 : Code := { maxStack := 6, maxLocals := 3, code := method_2_code, exceptionTable := #[], attributes := #[] }
def k1m1 : Method := { name := "name", desc := "(I)Ljava/lang/String;", sig := { parameters := [.int], returnType := some (.object "java/lang/String") }, accessFlags := 10, code := some k1c1 }
def k1c2 : Code := { maxStack := 6, maxLocals := 3, code := method_3_code, exceptionTable := #[], attributes := #[] }
def k1m2 : Method := { name := "quotedOf", desc := "(I)Ljava/lang/String;", sig := { parameters := [.int], returnType := some (.object "java/lang/String") }, accessFlags := 10, code := some k1c2 }
def k1c3 : Code := { maxStack := 4, maxLocals := 11, code := code, exceptionTable := #[], attributes := #[] }
def k1m3 : Method := { name := "law", desc := "(IIII)Z", sig := { parameters := [.int, .int, .int, .int], returnType := some .boolean }, accessFlags := 9, code := some k1c3 }
/-- com/example/attributes_to_claims/attributestoclaims/cli/OptionFlagPinLaw -/
def k1 : Class := { plain "com/example/attributes_to_claims/attributestoclaims/cli/OptionFlagPinLaw" (some 0) with
  accessFlags := 49
  interfaces := #[]
  cf := some (fileOf pool1 13 #[] #[{ accessFlags := 1, nameIndex := 5, descriptorIndex := 6, attributes := #[] }, { accessFlags := 10, nameIndex := 16, descriptorIndex := 17, attributes := #[] }, { accessFlags := 10, nameIndex := 63, descriptorIndex := 17, attributes := #[] }, { accessFlags := 9, nameIndex := 66, descriptorIndex := 67, attributes := #[] }] 49 2 #[] #[])
  fields := #[]
  methods := #[k1m0, k1m1, k1m2, k1m3]
  instanceTypes := #[]
  staticTypes := #[]
  resolved := Array.replicate 77 none
  statics := none }

def pool2 : Array CpInfo := pool [(1, .class_ 2), (0, u "java/io/Serializable"), (0, .class_ 4), (0, u "java/lang/Object")] 2

/-- java/io/Serializable -/
def k2 : Class := { plain "java/io/Serializable" (some 0) with
  accessFlags := 1537
  interfaces := #[]
  cf := some (fileOf pool2 1 #[] #[] 1537 3 #[] #[])
  fields := #[]
  methods := #[]
  instanceTypes := #[]
  staticTypes := #[]
  resolved := Array.replicate 7 none
  statics := none }

def pool3 : Array CpInfo := pool [(1, .class_ 2), (0, u "java/lang/Comparable"), (0, .class_ 4), (0, u "java/lang/Object")] 7

/-- java/lang/Comparable -/
def k3 : Class := { plain "java/lang/Comparable" (some 0) with
  accessFlags := 1537
  interfaces := #[]
  cf := some (fileOf pool3 1 #[] #[] 1537 3 #[] #[])
  fields := #[]
  methods := #[]
  instanceTypes := #[]
  staticTypes := #[]
  resolved := Array.replicate 12 none
  statics := none }

def pool4 : Array CpInfo := pool [(2, .class_ 4), (1, u "java/lang/CharSequence"), (42, .class_ 48), (0, u "java/lang/CharSequence$1CodePointIterator"), (10, .class_ 60), (0, u "java/lang/CharSequence$1CharIterator"), (5, .class_ 67), (0, u "java/lang/Object")] 63

/-- java/lang/CharSequence -/
def k4 : Class := { plain "java/lang/CharSequence" (some 0) with
  accessFlags := 1537
  interfaces := #[]
  cf := some (fileOf pool4 2 #[.nestMembers #[47, 59]] #[] 1537 66 #[] #[])
  fields := #[]
  methods := #[]
  instanceTypes := #[]
  staticTypes := #[]
  resolved := Array.replicate 131 none
  statics := none }

def pool5 : Array CpInfo := pool [(1, .class_ 2), (0, u "java/lang/constant/Constable"), (0, .class_ 4), (0, u "java/lang/Object")] 6

/-- java/lang/constant/Constable -/
def k5 : Class := { plain "java/lang/constant/Constable" (some 0) with
  accessFlags := 1537
  interfaces := #[]
  cf := some (fileOf pool5 1 #[] #[] 1537 3 #[] #[])
  fields := #[]
  methods := #[]
  instanceTypes := #[]
  staticTypes := #[]
  resolved := Array.replicate 11 none
  statics := none }

def pool6 : Array CpInfo := pool [(1, .class_ 2), (0, u "java/lang/constant/ConstantDesc"), (0, .class_ 4), (0, u "java/lang/Object")] 32

/-- java/lang/constant/ConstantDesc -/
def k6 : Class := { plain "java/lang/constant/ConstantDesc" (some 0) with
  accessFlags := 1537
  interfaces := #[]
  cf := some (fileOf pool6 1 #[] #[] 1537 3 #[] #[])
  fields := #[]
  methods := #[]
  instanceTypes := #[]
  staticTypes := #[]
  resolved := Array.replicate 37 none
  statics := none }

def pool7 : Array CpInfo := pool [(1, .methodref 2 3), (0, .class_ 4), (0, .nameAndType 5 6), (0, u "java/lang/Object"), (0, u "<init>"), (0, u "()V"), (2, .fieldref 10 11), (0, .class_ 12), (0, .nameAndType 13 14), (0, u "java/lang/String"), (0, u "value"), (0, u "[B"), (0, .fieldref 10 16), (0, .nameAndType 17 18), (0, u "coder"), (0, u "B"), (2, u "hash"), (0, u "I"), (2, u "hashIsZero"), (0, u "Z"), (0, .methodref 10 28), (0, .nameAndType 5 29), (0, u "([CIILjava/lang/Void;)V"), (8, .fieldref 10 39), (0, .nameAndType 40 26), (0, u "COMPACT_STRINGS"), (1, .class_ 44), (1, u "java/lang/StringUTF16"), (0, u "compress"), (1, .methodref 42 48), (0, .nameAndType 49 50), (0, u "coderFromArrayLen"), (0, u "([BI)B"), (3, .methodref 55 56), (0, .class_ 57), (0, .nameAndType 58 59), (0, u "java/util/Arrays"), (0, u "copyOfRange"), (0, u "([BII)[B"), (47, .class_ 109), (1, u "java/lang/StringLatin1"), (32, u "()Z"), (34, .methodref 42 178), (0, .nameAndType 45 179), (0, u "([CII)[B"), (13, .class_ 195), (1, u "java/lang/System"), (16, .methodref 193 213), (0, .nameAndType 214 215), (0, u "arraycopy"), (0, u "(Ljava/lang/Object;ILjava/lang/Object;II)V"), (118, u "()I"), (0, .methodref 10 336), (0, .nameAndType 17 337), (0, u "()B"), (2, u "()[B"), (148, .methodref 10 490), (0, .nameAndType 5 491), (0, u "(Ljava/lang/AbstractStringBuilder;Ljava/lang/Void;)V"), (1, .nameAndType 494 142), (0, u "isLatin1"), (11, .nameAndType 507 334), (0, u "length"), (24, u "getBytes"), (8, .methodref 107 542), (0, .nameAndType 543 544), (0, u "equals"), (0, u "([B[B)Z"), (4, .methodref 550 506), (0, .class_ 551), (0, u "java/lang/AbstractStringBuilder"), (0, .methodref 550 553), (0, .nameAndType 554 340), (0, u "getValue"), (18, u "(Ljava/lang/Object;)Z"), (1, .class_ 576), (0, u "java/lang/CharSequence"), (22, u "CASE_INSENSITIVE_ORDER"), (0, u "Ljava/util/Comparator;"), (91, u "isEmpty"), (128, u "([BIB)V"), (188, u "([C)V"), (36, .methodref 550 493), (53, u "serialPersistentFields"), (0, u "[Ljava/io/ObjectStreamField;"), (0, .class_ 1104), (0, u "java/lang/String$CaseInsensitiveComparator"), (1, .class_ 1107), (0, u "java/io/Serializable"), (0, .class_ 1109), (0, u "java/lang/Comparable"), (0, .class_ 1111), (0, u "java/lang/constant/Constable"), (0, .class_ 1113), (0, u "java/lang/constant/ConstantDesc"), (2, u "serialVersionUID"), (0, u "J"), (3, u "REPL"), (0, u "C"), (2, u "LATIN1"), (1, u "UTF16"), (105, u "(Ljava/lang/StringBuilder;)V")] 217

def k7m0 : Method := { name := "<init>", desc := "()V", sig := { parameters := [], returnType := none }, accessFlags := 1, code := none }
def k7c1 : Code := { maxStack := 5, maxLocals := 2, code := jdk_42_method_3_code, exceptionTable := #[], attributes := #[] }
def k7m1 : Method := { name := "<init>", desc := "([C)V", sig := { parameters := [(.array .char)], returnType := none }, accessFlags := 1, code := some k7c1 }
def k7c2 : Code := { maxStack := 3, maxLocals := 2, code := jdk_42_method_53_code, exceptionTable := #[], attributes := #[] }
def k7m2 : Method := { name := "<init>", desc := "(Ljava/lang/StringBuilder;)V", sig := { parameters := [(.object "java/lang/StringBuilder")], returnType := none }, accessFlags := 1, code := some k7c2 }
def k7c3 : Code := { maxStack := 2, maxLocals := 1, code := jdk_42_method_54_code, exceptionTable := #[], attributes := #[] }
def k7m3 : Method := { name := "length", desc := "()I", sig := { parameters := [], returnType := some .int }, accessFlags := 1, code := some k7c3 }
def k7c4 : Code := { maxStack := 1, maxLocals := 1, code := jdk_42_method_55_code, exceptionTable := #[], attributes := #[] }
def k7m4 : Method := { name := "isEmpty", desc := "()Z", sig := { parameters := [], returnType := some .boolean }, accessFlags := 1, code := some k7c4 }
def k7c5 : Code := { maxStack := 2, maxLocals := 3, code := jdk_42_method_66_code, exceptionTable := #[], attributes := #[] }
def k7m5 : Method := { name := "equals", desc := "(Ljava/lang/Object;)Z", sig := { parameters := [(.object "java/lang/Object")], returnType := some .boolean }, accessFlags := 1, code := some k7c5 }
def k7c6 : Code := { maxStack := 5, maxLocals := 4, code := jdk_42_method_147_code, exceptionTable := #[], attributes := #[] }
def k7m6 : Method := { name := "getBytes", desc := "([BIB)V", sig := { parameters := [(.array .byte), .int, .byte], returnType := none }, accessFlags := 0, code := some k7c6 }
def k7c7 : Code := { maxStack := 4, maxLocals := 6, code := jdk_42_method_149_code, exceptionTable := #[], attributes := #[] }
def k7m7 : Method := { name := "<init>", desc := "([CIILjava/lang/Void;)V", sig := { parameters := [(.array .char), .int, .int, (.object "java/lang/Void")], returnType := none }, accessFlags := 2, code := some k7c7 }
def k7c8 : Code := { maxStack := 5, maxLocals := 5, code := jdk_42_method_150_code, exceptionTable := #[], attributes := #[] }
def k7m8 : Method := { name := "<init>", desc := "(Ljava/lang/AbstractStringBuilder;Ljava/lang/Void;)V", sig := { parameters := [(.object "java/lang/AbstractStringBuilder"), (.object "java/lang/Void")], returnType := none }, accessFlags := 0, code := some k7c8 }
def k7c9 : Code := { maxStack := 1, maxLocals := 1, code := jdk_42_method_152_code, exceptionTable := #[], attributes := #[] }
def k7m9 : Method := { name := "coder", desc := "()B", sig := { parameters := [], returnType := some .byte }, accessFlags := 0, code := some k7c9 }
/-- java/lang/String -/
def k7 : Class := { plain "java/lang/String" (some 0) with
  accessFlags := 49
  interfaces := #[2, 3, 4, 5, 6]
  cf := some (fileOf pool7 10 #[.nestMembers #[1103]] #[{ accessFlags := 1, nameIndex := 5, descriptorIndex := 6, attributes := #[] }, { accessFlags := 1, nameIndex := 5, descriptorIndex := 1010, attributes := #[] }, { accessFlags := 1, nameIndex := 5, descriptorIndex := 1233, attributes := #[] }, { accessFlags := 1, nameIndex := 507, descriptorIndex := 334, attributes := #[] }, { accessFlags := 1, nameIndex := 692, descriptorIndex := 142, attributes := #[] }, { accessFlags := 1, nameIndex := 543, descriptorIndex := 573, attributes := #[] }, { accessFlags := 0, nameIndex := 532, descriptorIndex := 821, attributes := #[] }, { accessFlags := 2, nameIndex := 5, descriptorIndex := 29, attributes := #[] }, { accessFlags := 0, nameIndex := 5, descriptorIndex := 491, attributes := #[] }, { accessFlags := 0, nameIndex := 17, descriptorIndex := 337, attributes := #[] }] 49 2 #[1106, 1108, 575, 1110, 1112] #[{ accessFlags := 18, nameIndex := 13, descriptorIndex := 14, attributes := #[] }, { accessFlags := 18, nameIndex := 17, descriptorIndex := 18, attributes := #[] }, { accessFlags := 2, nameIndex := 21, descriptorIndex := 22, attributes := #[] }, { accessFlags := 2, nameIndex := 25, descriptorIndex := 26, attributes := #[] }, { accessFlags := 26, nameIndex := 1116, descriptorIndex := 1117, attributes := #[] }, { accessFlags := 24, nameIndex := 40, descriptorIndex := 26, attributes := #[] }, { accessFlags := 26, nameIndex := 1101, descriptorIndex := 1102, attributes := #[] }, { accessFlags := 26, nameIndex := 1121, descriptorIndex := 1122, attributes := #[] }, { accessFlags := 25, nameIndex := 599, descriptorIndex := 600, attributes := #[] }, { accessFlags := 24, nameIndex := 1125, descriptorIndex := 18, attributes := #[] }, { accessFlags := 24, nameIndex := 1127, descriptorIndex := 18, attributes := #[] }])
  fields := #[{ name := "value", type := (.array .byte), accessFlags := 18, slot := 0, constantValue := 0 }, { name := "coder", type := .byte, accessFlags := 18, slot := 1, constantValue := 0 }, { name := "hash", type := .int, accessFlags := 2, slot := 2, constantValue := 0 }, { name := "hashIsZero", type := .boolean, accessFlags := 2, slot := 3, constantValue := 0 }, { name := "serialVersionUID", type := .long, accessFlags := 26, slot := 0, constantValue := 0 }, { name := "COMPACT_STRINGS", type := .boolean, accessFlags := 24, slot := 1, constantValue := 0 }, { name := "serialPersistentFields", type := (.array (.object "java/io/ObjectStreamField")), accessFlags := 26, slot := 2, constantValue := 0 }, { name := "REPL", type := .char, accessFlags := 26, slot := 3, constantValue := 0 }, { name := "CASE_INSENSITIVE_ORDER", type := (.object "java/util/Comparator"), accessFlags := 25, slot := 4, constantValue := 0 }, { name := "LATIN1", type := .byte, accessFlags := 24, slot := 5, constantValue := 0 }, { name := "UTF16", type := .byte, accessFlags := 24, slot := 6, constantValue := 0 }]
  methods := #[k7m0, k7m1, k7m2, k7m3, k7m4, k7m5, k7m6, k7m7, k7m8, k7m9]
  instanceTypes := #[(.array .byte), .byte, .int, .boolean]
  staticTypes := #[.long, .boolean, (.array (.object "java/io/ObjectStreamField")), .char, (.object "java/util/Comparator"), .byte, .byte]
  resolved := Array.replicate 1451 none
  statics := some 0 }

def pool8 : Array CpInfo := pool [(6, .class_ 8), (1, u "java/lang/Object"), (0, u "<init>"), (0, u "()V"), (1, .class_ 14), (1, u "java/lang/StringUTF16"), (31, u "$assertionsDisabled"), (0, u "Z"), (13, u "HI_BYTE_SHIFT"), (0, u "I"), (2, u "LO_BYTE_SHIFT"), (49, .methodref 12 116), (0, .nameAndType 117 118), (0, u "compress"), (0, u "([CI[BII)I"), (3, u "([CII)[B"), (138, u "coderFromArrayLen"), (0, u "([BI)B"), (106, .class_ 371), (1, u "java/lang/StringUTF16$LinesSpliterator"), (58, u "MAX_LENGTH"), (196, .class_ 628), (0, u "java/lang/StringUTF16$CodePointsSpliterator"), (0, .class_ 630), (0, u "java/lang/StringUTF16$CharsSpliterator")] 4

def k8m0 : Method := { name := "<init>", desc := "()V", sig := { parameters := [], returnType := none }, accessFlags := 0, code := none }
def k8c1 : Code := { maxStack := 2, maxLocals := 2, code := jdk_52_method_15_code, exceptionTable := #[], attributes := #[] }
def k8m1 : Method := { name := "coderFromArrayLen", desc := "([BI)B", sig := { parameters := [(.array .byte), .int], returnType := some .byte }, accessFlags := 8, code := some k8c1 }
def k8c2 : Code := { maxStack := 5, maxLocals := 6, code := jdk_52_method_16_code, exceptionTable := #[], attributes := #[] }
def k8m2 : Method := { name := "compress", desc := "([CII)[B", sig := { parameters := [(.array .char), .int, .int], returnType := some (.array .byte) }, accessFlags := 9, code := some k8c2 }
def k8c3 : Code := { maxStack := 3, maxLocals := 7, code := jdk_52_method_21_code, exceptionTable := #[], attributes := #[] }
def k8m3 : Method := { name := "compress", desc := "([CI[BII)I", sig := { parameters := [(.array .char), .int, (.array .byte), .int, .int], returnType := some .int }, accessFlags := 9, code := some k8c3 }
/-- java/lang/StringUTF16 -/
def k8 : Class := { plain "java/lang/StringUTF16" (some 0) with
  accessFlags := 48
  interfaces := #[]
  cf := some (fileOf pool8 12 #[.nestMembers #[627, 629, 369]] #[{ accessFlags := 0, nameIndex := 9, descriptorIndex := 10, attributes := #[] }, { accessFlags := 8, nameIndex := 261, descriptorIndex := 262, attributes := #[] }, { accessFlags := 9, nameIndex := 117, descriptorIndex := 122, attributes := #[] }, { accessFlags := 9, nameIndex := 117, descriptorIndex := 118, attributes := #[] }] 48 6 #[] #[{ accessFlags := 26, nameIndex := 61, descriptorIndex := 62, attributes := #[] }, { accessFlags := 26, nameIndex := 65, descriptorIndex := 62, attributes := #[] }, { accessFlags := 24, nameIndex := 430, descriptorIndex := 62, attributes := #[] }, { accessFlags := 4120, nameIndex := 46, descriptorIndex := 47, attributes := #[] }])
  fields := #[{ name := "HI_BYTE_SHIFT", type := .int, accessFlags := 26, slot := 0, constantValue := 0 }, { name := "LO_BYTE_SHIFT", type := .int, accessFlags := 26, slot := 1, constantValue := 0 }, { name := "MAX_LENGTH", type := .int, accessFlags := 24, slot := 2, constantValue := 0 }, { name := "$assertionsDisabled", type := .boolean, accessFlags := 4120, slot := 3, constantValue := 0 }]
  methods := #[k8m0, k8m1, k8m2, k8m3]
  instanceTypes := #[]
  staticTypes := #[.int, .int, .int, .boolean]
  resolved := Array.replicate 635 none
  statics := none }

def pool9 : Array CpInfo := pool [(1, .methodref 2 3), (0, .class_ 4), (0, .nameAndType 5 6), (0, u "java/lang/Object"), (0, u "<init>"), (0, u "()V"), (0, .class_ 8), (0, u "java/lang/Record")] 13

def k9c0 : Code := { maxStack := 1, maxLocals := 1, code := jdk_30_method_1_code, exceptionTable := #[], attributes := #[] }
def k9m0 : Method := { name := "<init>", desc := "()V", sig := { parameters := [], returnType := none }, accessFlags := 4, code := some k9c0 }
/-- java/lang/Record -/
def k9 : Class := { plain "java/lang/Record" (some 0) with
  accessFlags := 1057
  interfaces := #[]
  cf := some (fileOf pool9 7 #[] #[{ accessFlags := 4, nameIndex := 5, descriptorIndex := 6, attributes := #[] }] 1057 2 #[] #[])
  fields := #[]
  methods := #[k9m0]
  instanceTypes := #[]
  staticTypes := #[]
  resolved := Array.replicate 22 none
  statics := none }

def pool10 : Array CpInfo := pool [(1, .methodref 2 3), (0, .class_ 4), (0, .nameAndType 5 6), (0, u "java/lang/Record"), (0, u "<init>"), (0, u "()V"), (0, .fieldref 8 9), (0, .class_ 10), (0, .nameAndType 11 12), (0, u "com/example/attributes_to_claims/attributestoclaims/cli/CommandArguments$Option"), (0, u "names"), (0, u "Ljava/util/List;"), (0, .fieldref 8 14), (0, .nameAndType 15 16), (0, u "label"), (0, u "Ljava/lang/String;"), (0, .fieldref 8 18), (0, .nameAndType 19 20), (0, u "repeatable"), (0, u "Z"), (1, .class_ 24), (1, u "java/util/List"), (0, u "of"), (1, .methodref 8 28), (0, .nameAndType 5 29), (0, u "(Ljava/util/List;Ljava/lang/String;Z)V"), (0, .interfaceMethodref 22 31), (0, .nameAndType 25 32), (0, u "([Ljava/lang/Object;)Ljava/util/List;"), (0, .string 34), (0, u ""), (0, .methodref 36 37), (0, .class_ 38), (0, .nameAndType 39 40), (0, u "java/lang/String"), (0, u "isEmpty"), (0, u "()Z"), (0, .class_ 42), (0, u "java/lang/StringBuilder"), (0, .methodref 41 3), (0, .string 45), (0, u "'"), (0, .methodref 41 47), (0, .nameAndType 48 49), (0, u "append"), (0, u "(Ljava/lang/String;)Ljava/lang/StringBuilder;"), (0, .interfaceMethodref 22 51), (0, .nameAndType 52 53), (0, u "get"), (0, u "(I)Ljava/lang/Object;"), (0, .methodref 41 55), (0, .nameAndType 56 57), (0, u "toString"), (0, u "()Ljava/lang/String;"), (0, .methodref 8 59), (0, .nameAndType 60 40), (0, u "isFlag"), (23, u "flag"), (0, u "([Ljava/lang/String;)Lcom/example/attributes_to_claims/attributestoclaims/cli/CommandArguments$Option;"), (0, u "quoted"), (3, u "()Ljava/util/List;"), (4, .class_ 96), (0, u "com/example/attributes_to_claims/attributestoclaims/cli/CommandArguments")] 21

def k10c0 : Code := { maxStack := 2, maxLocals := 4, code := prog_62_method_1_code, exceptionTable := #[], attributes := #[] }
def k10m0 : Method := { name := "<init>", desc := "(Ljava/util/List;Ljava/lang/String;Z)V", sig := { parameters := [(.object "java/util/List"), (.object "java/lang/String"), .boolean], returnType := none }, accessFlags := 0, code := some k10c0 }
def k10c1 : Code := { maxStack := 5, maxLocals := 1, code := prog_62_method_3_code, exceptionTable := #[], attributes := #[] }
def k10m1 : Method := { name := "flag", desc := "([Ljava/lang/String;)Lcom/example/attributes_to_claims/attributestoclaims/cli/CommandArguments$Option;", sig := { parameters := [(.array (.object "java/lang/String"))], returnType := some (.object "com/example/attributes_to_claims/attributestoclaims/cli/CommandArguments$Option") }, accessFlags := 136, code := some k10c1 }
def k10c2 : Code := { maxStack := 1, maxLocals := 1, code := prog_62_method_4_code, exceptionTable := #[], attributes := #[] }
def k10m2 : Method := { name := "isFlag", desc := "()Z", sig := { parameters := [], returnType := some .boolean }, accessFlags := 0, code := some k10c2 }
def k10c3 : Code := { maxStack := 3, maxLocals := 2, code := prog_62_method_5_code, exceptionTable := #[], attributes := #[] }
def k10m3 : Method := { name := "quoted", desc := "()Ljava/lang/String;", sig := { parameters := [], returnType := some (.object "java/lang/String") }, accessFlags := 0, code := some k10c3 }
def k10c4 : Code := { maxStack := 1, maxLocals := 1, code := prog_62_method_9_code, exceptionTable := #[], attributes := #[] }
def k10m4 : Method := { name := "names", desc := "()Ljava/util/List;", sig := { parameters := [], returnType := some (.object "java/util/List") }, accessFlags := 1, code := some k10c4 }
def k10c5 : Code := { maxStack := 1, maxLocals := 1, code := prog_62_method_10_code, exceptionTable := #[], attributes := #[] }
def k10m5 : Method := { name := "label", desc := "()Ljava/lang/String;", sig := { parameters := [], returnType := some (.object "java/lang/String") }, accessFlags := 1, code := some k10c5 }
def k10c6 : Code := { maxStack := 1, maxLocals := 1, code := prog_62_method_11_code, exceptionTable := #[], attributes := #[] }
def k10m6 : Method := { name := "repeatable", desc := "()Z", sig := { parameters := [], returnType := some .boolean }, accessFlags := 1, code := some k10c6 }
/-- com/example/attributes_to_claims/attributestoclaims/cli/CommandArguments$Option -/
def k10 : Class := { plain "com/example/attributes_to_claims/attributestoclaims/cli/CommandArguments$Option" (some 9) with
  accessFlags := 48
  interfaces := #[]
  cf := some (fileOf pool10 8 #[.nestHost 95] #[{ accessFlags := 0, nameIndex := 5, descriptorIndex := 29, attributes := #[] }, { accessFlags := 136, nameIndex := 84, descriptorIndex := 85, attributes := #[] }, { accessFlags := 0, nameIndex := 60, descriptorIndex := 40, attributes := #[] }, { accessFlags := 0, nameIndex := 86, descriptorIndex := 57, attributes := #[] }, { accessFlags := 1, nameIndex := 11, descriptorIndex := 90, attributes := #[] }, { accessFlags := 1, nameIndex := 15, descriptorIndex := 57, attributes := #[] }, { accessFlags := 1, nameIndex := 19, descriptorIndex := 40, attributes := #[] }] 48 2 #[] #[{ accessFlags := 18, nameIndex := 11, descriptorIndex := 12, attributes := #[] }, { accessFlags := 18, nameIndex := 15, descriptorIndex := 16, attributes := #[] }, { accessFlags := 18, nameIndex := 19, descriptorIndex := 20, attributes := #[] }])
  fields := #[{ name := "names", type := (.object "java/util/List"), accessFlags := 18, slot := 0, constantValue := 0 }, { name := "label", type := (.object "java/lang/String"), accessFlags := 18, slot := 1, constantValue := 0 }, { name := "repeatable", type := .boolean, accessFlags := 18, slot := 2, constantValue := 0 }]
  methods := #[k10m0, k10m1, k10m2, k10m3, k10m4, k10m5, k10m6]
  instanceTypes := #[(.object "java/util/List"), (.object "java/lang/String"), .boolean]
  staticTypes := #[]
  resolved := Array.replicate 118 none
  statics := none }

def pool11 : Array CpInfo := pool [(8, .class_ 10), (1, u "java/lang/Iterable"), (24, .class_ 36), (0, u "java/lang/Object")] 25

/-- java/lang/Iterable -/
def k11 : Class := { plain "java/lang/Iterable" (some 0) with
  accessFlags := 1537
  interfaces := #[]
  cf := some (fileOf pool11 8 #[] #[] 1537 35 #[] #[])
  fields := #[]
  methods := #[]
  instanceTypes := #[]
  staticTypes := #[]
  resolved := Array.replicate 62 none
  statics := none }

def pool12 : Array CpInfo := pool [(10, .class_ 12), (1, u "java/util/Collection"), (47, .class_ 61), (0, u "java/lang/Object"), (0, .class_ 63), (0, u "java/lang/Iterable")] 51

/-- java/util/Collection -/
def k12 : Class := { plain "java/util/Collection" (some 0) with
  accessFlags := 1537
  interfaces := #[11]
  cf := some (fileOf pool12 10 #[] #[] 1537 60 #[62] #[])
  fields := #[]
  methods := #[]
  instanceTypes := #[]
  staticTypes := #[]
  resolved := Array.replicate 115 none
  statics := none }

def pool13 : Array CpInfo := pool [(8, .class_ 10), (1, u "java/util/SequencedCollection"), (15, .class_ 27), (0, u "java/lang/Object"), (0, .class_ 29), (0, u "java/util/Collection")] 27

/-- java/util/SequencedCollection -/
def k13 : Class := { plain "java/util/SequencedCollection" (some 0) with
  accessFlags := 1537
  interfaces := #[12]
  cf := some (fileOf pool13 8 #[] #[] 1537 26 #[28] #[])
  fields := #[]
  methods := #[]
  instanceTypes := #[]
  staticTypes := #[]
  resolved := Array.replicate 57 none
  statics := none }

def pool14 : Array CpInfo := pool [(8, .class_ 10), (1, u "java/util/List"), (20, u "(Ljava/lang/Object;)V"), (16, u "<init>"), (26, u "get"), (0, u "(I)Ljava/lang/Object;"), (2, u "size"), (0, u "()I"), (7, u "of"), (1, .fieldref 91 92), (0, .class_ 93), (0, .nameAndType 94 95), (0, u "java/util/ImmutableCollections"), (0, u "EMPTY_LIST"), (0, u "Ljava/util/ImmutableCollections$ListN;"), (0, .class_ 97), (0, u "java/util/ImmutableCollections$List12"), (0, .methodref 96 99), (0, .nameAndType 48 31), (0, .methodref 96 101), (0, .nameAndType 48 102), (0, u "(Ljava/lang/Object;Ljava/lang/Object;)V"), (0, .class_ 104), (0, u "java/lang/Object"), (3, u "([Ljava/lang/Object;)Ljava/util/List;"), (0, .methodref 91 110), (0, .nameAndType 111 108), (0, u "listFromArray"), (8, .class_ 121), (0, u "java/util/SequencedCollection")] 129

def k14m0 : Method := { name := "size", desc := "()I", sig := { parameters := [], returnType := some .int }, accessFlags := 1025, code := none }
def k14m1 : Method := { name := "get", desc := "(I)Ljava/lang/Object;", sig := { parameters := [.int], returnType := some (.object "java/lang/Object") }, accessFlags := 1025, code := none }
def k14c2 : Code := { maxStack := 5, maxLocals := 2, code := jdk_40_method_47_code, exceptionTable := #[], attributes := #[] }
def k14m2 : Method := { name := "of", desc := "([Ljava/lang/Object;)Ljava/util/List;", sig := { parameters := [(.array (.object "java/lang/Object"))], returnType := some (.object "java/util/List") }, accessFlags := 137, code := some k14c2 }
/-- java/util/List -/
def k14 : Class := { plain "java/util/List" (some 0) with
  accessFlags := 1537
  interfaces := #[13]
  cf := some (fileOf pool14 8 #[] #[{ accessFlags := 1025, nameIndex := 79, descriptorIndex := 80, attributes := #[] }, { accessFlags := 1025, nameIndex := 75, descriptorIndex := 76, attributes := #[] }, { accessFlags := 137, nameIndex := 88, descriptorIndex := 108, attributes := #[] }] 1537 103 #[120] #[])
  fields := #[]
  methods := #[k14m0, k14m1, k14m2]
  instanceTypes := #[]
  staticTypes := #[]
  resolved := Array.replicate 251 none
  statics := none }

def pool15 : Array CpInfo := pool [(2, .class_ 4), (1, u "java/lang/Object"), (0, u "<init>"), (0, u "()V"), (3, .class_ 11), (0, u "java/util/ImmutableCollections$List12"), (0, .class_ 13), (0, u "java/util/ImmutableCollections$ListN"), (3, u "Z"), (18, u "([Ljava/lang/Object;)Ljava/util/List;"), (0, .methodref 38 39), (0, .class_ 40), (0, .nameAndType 41 42), (0, u "java/util/Objects"), (0, u "requireNonNull"), (0, u "(Ljava/lang/Object;)Ljava/lang/Object;"), (0, .methodref 12 44), (0, .nameAndType 5 45), (0, u "([Ljava/lang/Object;Z)V"), (1, .class_ 49), (1, u "java/util/ImmutableCollections"), (0, u "$assertionsDisabled"), (5, u "[Ljava/lang/Object;"), (5, u "EMPTY_LIST"), (0, u "Ljava/util/ImmutableCollections$ListN;"), (8, u "EMPTY_LIST_NULLS"), (22, u "SALT32L"), (0, u "J"), (2, u "REVERSE"), (6, u "archivedObjects"), (2, u "EMPTY"), (0, u "Ljava/lang/Object;"), (0, .class_ 112), (0, u "java/util/ImmutableCollections$SetN"), (5, u "EMPTY_SET"), (0, u "Ljava/util/ImmutableCollections$SetN;"), (0, .class_ 121), (0, u "java/util/ImmutableCollections$MapN"), (3, u "EMPTY_MAP"), (0, u "Ljava/util/ImmutableCollections$MapN;"), (4, u "EXPAND_FACTOR"), (0, u "I"), (18, u "listFromArray"), (17, .class_ 170), (0, u "java/util/ImmutableCollections$MapN$MapNIterator"), (0, .class_ 172), (0, u "java/util/ImmutableCollections$MapN$1"), (0, .class_ 174), (0, u "java/util/ImmutableCollections$Map1"), (0, .class_ 176), (0, u "java/util/ImmutableCollections$AbstractImmutableMap"), (0, .class_ 178), (0, u "java/util/ImmutableCollections$SetN$SetNIterator"), (0, .class_ 180), (0, u "java/util/ImmutableCollections$Set12"), (0, .class_ 182), (0, u "java/util/ImmutableCollections$Set12$1"), (0, .class_ 184), (0, u "java/util/ImmutableCollections$AbstractImmutableSet"), (0, .class_ 186), (0, u "java/util/ImmutableCollections$SubList"), (0, .class_ 188), (0, u "java/util/ImmutableCollections$ListItr"), (0, .class_ 190), (0, u "java/util/ImmutableCollections$AbstractImmutableList"), (0, .class_ 192), (0, u "java/util/ImmutableCollections$AbstractImmutableCollection"), (0, .class_ 194), (0, u "java/util/ImmutableCollections$Access"), (0, .class_ 196), (0, u "java/util/ImmutableCollections$Access$1")] 16

def k15m0 : Method := { name := "<init>", desc := "()V", sig := { parameters := [], returnType := none }, accessFlags := 2, code := none }
def k15c1 : Code := { maxStack := 4, maxLocals := 3, code := jdk_56_method_4_code, exceptionTable := #[], attributes := #[] }
def k15m1 : Method := { name := "listFromArray", desc := "([Ljava/lang/Object;)Ljava/util/List;", sig := { parameters := [(.array (.object "java/lang/Object"))], returnType := some (.object "java/util/List") }, accessFlags := 136, code := some k15c1 }
/-- java/util/ImmutableCollections -/
def k15 : Class := { plain "java/util/ImmutableCollections" (some 0) with
  accessFlags := 32
  interfaces := #[]
  cf := some (fileOf pool15 47 #[.nestMembers #[120, 169, 171, 173, 175, 111, 177, 179, 181, 183, 12, 10, 185, 187, 189, 191, 193, 195]] #[{ accessFlags := 2, nameIndex := 5, descriptorIndex := 6, attributes := #[] }, { accessFlags := 136, nameIndex := 151, descriptorIndex := 36, attributes := #[] }] 32 2 #[] #[{ accessFlags := 26, nameIndex := 95, descriptorIndex := 96, attributes := #[] }, { accessFlags := 26, nameIndex := 99, descriptorIndex := 17, attributes := #[] }, { accessFlags := 10, nameIndex := 106, descriptorIndex := 56, attributes := #[] }, { accessFlags := 26, nameIndex := 109, descriptorIndex := 110, attributes := #[] }, { accessFlags := 24, nameIndex := 62, descriptorIndex := 63, attributes := #[] }, { accessFlags := 24, nameIndex := 72, descriptorIndex := 63, attributes := #[] }, { accessFlags := 24, nameIndex := 118, descriptorIndex := 119, attributes := #[] }, { accessFlags := 24, nameIndex := 125, descriptorIndex := 126, attributes := #[] }, { accessFlags := 24, nameIndex := 131, descriptorIndex := 132, attributes := #[] }, { accessFlags := 4120, nameIndex := 50, descriptorIndex := 17, attributes := #[] }])
  fields := #[{ name := "SALT32L", type := .long, accessFlags := 26, slot := 0, constantValue := 0 }, { name := "REVERSE", type := .boolean, accessFlags := 26, slot := 1, constantValue := 0 }, { name := "archivedObjects", type := (.array (.object "java/lang/Object")), accessFlags := 10, slot := 2, constantValue := 0 }, { name := "EMPTY", type := (.object "java/lang/Object"), accessFlags := 26, slot := 3, constantValue := 0 }, { name := "EMPTY_LIST", type := (.object "java/util/ImmutableCollections$ListN"), accessFlags := 24, slot := 4, constantValue := 0 }, { name := "EMPTY_LIST_NULLS", type := (.object "java/util/ImmutableCollections$ListN"), accessFlags := 24, slot := 5, constantValue := 0 }, { name := "EMPTY_SET", type := (.object "java/util/ImmutableCollections$SetN"), accessFlags := 24, slot := 6, constantValue := 0 }, { name := "EMPTY_MAP", type := (.object "java/util/ImmutableCollections$MapN"), accessFlags := 24, slot := 7, constantValue := 0 }, { name := "EXPAND_FACTOR", type := .int, accessFlags := 24, slot := 8, constantValue := 0 }, { name := "$assertionsDisabled", type := .boolean, accessFlags := 4120, slot := 9, constantValue := 0 }]
  methods := #[k15m0, k15m1]
  instanceTypes := #[]
  staticTypes := #[.long, .boolean, (.array (.object "java/lang/Object")), (.object "java/lang/Object"), (.object "java/util/ImmutableCollections$ListN"), (.object "java/util/ImmutableCollections$ListN"), (.object "java/util/ImmutableCollections$SetN"), (.object "java/util/ImmutableCollections$MapN"), .int, .boolean]
  resolved := Array.replicate 213 none
  statics := some 1 }

def pool16 : Array CpInfo := pool [(1, .methodref 2 3), (0, .class_ 4), (0, .nameAndType 5 6), (0, u "java/lang/Object"), (0, u "<init>"), (0, u "()V"), (1, .class_ 10), (1, u "java/util/AbstractCollection"), (66, .class_ 78), (0, u "java/util/Collection")] 81

def k16c0 : Code := { maxStack := 1, maxLocals := 1, code := jdk_22_method_1_code, exceptionTable := #[], attributes := #[] }
def k16m0 : Method := { name := "<init>", desc := "()V", sig := { parameters := [], returnType := none }, accessFlags := 4, code := some k16c0 }
/-- java/util/AbstractCollection -/
def k16 : Class := { plain "java/util/AbstractCollection" (some 0) with
  accessFlags := 1057
  interfaces := #[12]
  cf := some (fileOf pool16 8 #[] #[{ accessFlags := 4, nameIndex := 5, descriptorIndex := 6, attributes := #[] }] 1057 2 #[77] #[])
  fields := #[]
  methods := #[k16m0]
  instanceTypes := #[]
  staticTypes := #[]
  resolved := Array.replicate 160 none
  statics := none }

def pool17 : Array CpInfo := pool [(1, .methodref 2 3), (0, .class_ 4), (0, .nameAndType 5 6), (0, u "java/util/AbstractCollection"), (0, u "<init>"), (0, u "()V"), (1, .class_ 10), (1, u "java/util/ImmutableCollections"), (2, .class_ 14), (0, u "java/util/ImmutableCollections$AbstractImmutableCollection")] 41

def k17c0 : Code := { maxStack := 1, maxLocals := 1, code := jdk_47_method_1_code, exceptionTable := #[], attributes := #[] }
def k17m0 : Method := { name := "<init>", desc := "()V", sig := { parameters := [], returnType := none }, accessFlags := 0, code := some k17c0 }
/-- java/util/ImmutableCollections$AbstractImmutableCollection -/
def k17 : Class := { plain "java/util/ImmutableCollections$AbstractImmutableCollection" (some 16) with
  accessFlags := 1056
  interfaces := #[]
  cf := some (fileOf pool17 13 #[.nestHost 8] #[{ accessFlags := 0, nameIndex := 5, descriptorIndex := 6, attributes := #[] }] 1056 2 #[] #[])
  fields := #[]
  methods := #[k17m0]
  instanceTypes := #[]
  staticTypes := #[]
  resolved := Array.replicate 56 none
  statics := none }

def pool18 : Array CpInfo := pool [(1, .class_ 2), (0, u "java/util/RandomAccess"), (0, .class_ 4), (0, u "java/lang/Object")] 2

/-- java/util/RandomAccess -/
def k18 : Class := { plain "java/util/RandomAccess" (some 0) with
  accessFlags := 1537
  interfaces := #[]
  cf := some (fileOf pool18 1 #[] #[] 1537 3 #[] #[])
  fields := #[]
  methods := #[]
  instanceTypes := #[]
  staticTypes := #[]
  resolved := Array.replicate 7 none
  statics := none }

def pool19 : Array CpInfo := pool [(1, .methodref 2 3), (0, .class_ 4), (0, .nameAndType 5 6), (0, u "java/util/ImmutableCollections$AbstractImmutableCollection"), (0, u "<init>"), (0, u "()V"), (1, .class_ 10), (1, u "java/util/ImmutableCollections"), (3, .class_ 16), (1, u "java/util/ImmutableCollections$AbstractImmutableList"), (60, .class_ 78), (0, u "java/util/List"), (45, .class_ 125), (0, u "java/util/RandomAccess")] 70

def k19c0 : Code := { maxStack := 1, maxLocals := 1, code := jdk_46_method_1_code, exceptionTable := #[], attributes := #[] }
def k19m0 : Method := { name := "<init>", desc := "()V", sig := { parameters := [], returnType := none }, accessFlags := 0, code := some k19c0 }
/-- java/util/ImmutableCollections$AbstractImmutableList -/
def k19 : Class := { plain "java/util/ImmutableCollections$AbstractImmutableList" (some 17) with
  accessFlags := 1056
  interfaces := #[14, 18]
  cf := some (fileOf pool19 14 #[.nestHost 8] #[{ accessFlags := 0, nameIndex := 5, descriptorIndex := 6, attributes := #[] }] 1056 2 #[77, 124] #[])
  fields := #[]
  methods := #[k19m0]
  instanceTypes := #[]
  staticTypes := #[]
  resolved := Array.replicate 196 none
  statics := none }

def pool20 : Array CpInfo := pool [(1, .methodref 2 3), (0, .class_ 4), (0, .nameAndType 5 6), (0, u "java/util/ImmutableCollections$AbstractImmutableList"), (0, u "<init>"), (0, u "()V"), (0, .fieldref 8 9), (0, .class_ 10), (0, .nameAndType 11 12), (0, u "java/util/ImmutableCollections$ListN"), (0, u "elements"), (0, u "[Ljava/lang/Object;"), (0, .fieldref 8 14), (0, .nameAndType 15 16), (0, u "allowNulls"), (0, u "Z"), (42, .class_ 60), (0, u "java/io/Serializable"), (4, u "([Ljava/lang/Object;Z)V"), (11, u "size"), (0, u "()I"), (0, u "get"), (0, u "(I)Ljava/lang/Object;"), (33, .class_ 115), (0, u "java/util/ImmutableCollections")] 3

def k20c0 : Code := { maxStack := 2, maxLocals := 3, code := jdk_45_method_1_code, exceptionTable := #[], attributes := #[] }
def k20m0 : Method := { name := "<init>", desc := "([Ljava/lang/Object;Z)V", sig := { parameters := [(.array (.object "java/lang/Object")), .boolean], returnType := none }, accessFlags := 2, code := some k20c0 }
def k20c1 : Code := { maxStack := 1, maxLocals := 1, code := jdk_45_method_3_code, exceptionTable := #[], attributes := #[] }
def k20m1 : Method := { name := "size", desc := "()I", sig := { parameters := [], returnType := some .int }, accessFlags := 1, code := some k20c1 }
def k20c2 : Code := { maxStack := 2, maxLocals := 2, code := jdk_45_method_4_code, exceptionTable := #[], attributes := #[] }
def k20m2 : Method := { name := "get", desc := "(I)Ljava/lang/Object;", sig := { parameters := [.int], returnType := some (.object "java/lang/Object") }, accessFlags := 1, code := some k20c2 }
/-- java/util/ImmutableCollections$ListN -/
def k20 : Class := { plain "java/util/ImmutableCollections$ListN" (some 19) with
  accessFlags := 48
  interfaces := #[2]
  cf := some (fileOf pool20 8 #[.nestHost 114] #[{ accessFlags := 2, nameIndex := 5, descriptorIndex := 65, attributes := #[] }, { accessFlags := 1, nameIndex := 77, descriptorIndex := 78, attributes := #[] }, { accessFlags := 1, nameIndex := 79, descriptorIndex := 80, attributes := #[] }] 48 2 #[59] #[{ accessFlags := 18, nameIndex := 11, descriptorIndex := 12, attributes := #[] }, { accessFlags := 18, nameIndex := 15, descriptorIndex := 16, attributes := #[] }])
  fields := #[{ name := "elements", type := (.array (.object "java/lang/Object")), accessFlags := 18, slot := 0, constantValue := 0 }, { name := "allowNulls", type := .boolean, accessFlags := 18, slot := 1, constantValue := 0 }]
  methods := #[k20m0, k20m1, k20m2]
  instanceTypes := #[(.array (.object "java/lang/Object")), .boolean]
  staticTypes := #[]
  resolved := Array.replicate 119 none
  statics := none }

def pool21 : Array CpInfo := pool [(2, .class_ 4), (1, u "java/lang/Object"), (0, u "<init>"), (0, u "()V"), (35, .class_ 44), (1, u "java/util/Objects"), (0, u "requireNonNull"), (0, u "(Ljava/lang/Object;)Ljava/lang/Object;")] 137

def k21m0 : Method := { name := "<init>", desc := "()V", sig := { parameters := [], returnType := none }, accessFlags := 2, code := none }
def k21c1 : Code := { maxStack := 2, maxLocals := 1, code := jdk_31_method_10_code, exceptionTable := #[], attributes := #[] }
def k21m1 : Method := { name := "requireNonNull", desc := "(Ljava/lang/Object;)Ljava/lang/Object;", sig := { parameters := [(.object "java/lang/Object")], returnType := some (.object "java/lang/Object") }, accessFlags := 9, code := some k21c1 }
/-- java/util/Objects -/
def k21 : Class := { plain "java/util/Objects" (some 0) with
  accessFlags := 49
  interfaces := #[]
  cf := some (fileOf pool21 42 #[] #[{ accessFlags := 2, nameIndex := 5, descriptorIndex := 6, attributes := #[] }, { accessFlags := 9, nameIndex := 45, descriptorIndex := 46, attributes := #[] }] 49 2 #[] #[])
  fields := #[]
  methods := #[k21m0, k21m1]
  instanceTypes := #[]
  staticTypes := #[]
  resolved := Array.replicate 184 none
  statics := none }

def pool22 : Array CpInfo := pool [(1, .class_ 2), (0, u "java/lang/Appendable"), (0, .class_ 4), (0, u "java/lang/Object")] 9

/-- java/lang/Appendable -/
def k22 : Class := { plain "java/lang/Appendable" (some 0) with
  accessFlags := 1537
  interfaces := #[]
  cf := some (fileOf pool22 1 #[] #[] 1537 3 #[] #[])
  fields := #[]
  methods := #[]
  instanceTypes := #[]
  staticTypes := #[]
  resolved := Array.replicate 14 none
  statics := none }

def pool23 : Array CpInfo := pool [(1, .class_ 2), (0, u "java/lang/String"), (0, .methodref 4 5), (0, .class_ 6), (0, .nameAndType 7 8), (0, u "java/lang/Object"), (0, u "<init>"), (0, u "()V"), (1, .class_ 12), (1, u "java/lang/AbstractStringBuilder"), (0, u "EMPTYVALUE"), (0, u "[B"), (0, .fieldref 10 16), (0, .nameAndType 17 14), (0, u "value"), (0, .fieldref 1 19), (0, .nameAndType 20 21), (0, u "COMPACT_STRINGS"), (0, u "Z"), (0, .fieldref 10 23), (0, .nameAndType 24 25), (0, u "coder"), (0, u "B"), (6, .methodref 1 33), (0, .nameAndType 34 35), (0, u "length"), (0, u "()I"), (4, .methodref 1 41), (0, .nameAndType 24 42), (0, u "()B"), (2, u "append"), (0, u "(Ljava/lang/String;)Ljava/lang/AbstractStringBuilder;"), (1, .class_ 49), (0, u "java/lang/CharSequence"), (19, u "(Ljava/lang/String;)V"), (5, u "maybeLatin1"), (3, .fieldref 10 80), (0, .nameAndType 81 82), (0, u "count"), (0, u "I"), (2, u "isLatin1"), (0, u "()Z"), (13, .methodref 10 101), (0, .nameAndType 102 103), (0, u "ensureCapacityInternal"), (0, u "(I)V"), (104, .methodref 10 209), (0, .nameAndType 210 211), (0, u "putStringAt"), (0, u "(ILjava/lang/String;)V"), (5, u "inflateIfNeededFor"), (2, .nameAndType 221 222), (0, u "getBytes"), (0, u "([BIB)V"), (174, .methodref 10 398), (0, .nameAndType 217 69), (0, .methodref 1 220), (3, u "()[B"), (40, .class_ 445), (0, u "java/lang/Appendable"), (106, u "getValue")] 56

def k23m0 : Method := { name := "<init>", desc := "()V", sig := { parameters := [], returnType := none }, accessFlags := 0, code := none }
def k23c1 : Code := { maxStack := 2, maxLocals := 2, code := jdk_68_method_2_code, exceptionTable := #[], attributes := #[] }
def k23m1 : Method := { name := "<init>", desc := "(I)V", sig := { parameters := [.int], returnType := none }, accessFlags := 0, code := some k23c1 }
def k23c2 : Code := { maxStack := 1, maxLocals := 1, code := jdk_68_method_6_code, exceptionTable := #[], attributes := #[] }
def k23m2 : Method := { name := "length", desc := "()I", sig := { parameters := [], returnType := some .int }, accessFlags := 1, code := some k23c2 }
def k23c3 : Code := { maxStack := 4, maxLocals := 3, code := jdk_68_method_9_code, exceptionTable := #[], attributes := #[] }
def k23m3 : Method := { name := "ensureCapacityInternal", desc := "(I)V", sig := { parameters := [.int], returnType := none }, accessFlags := 2, code := some k23c3 }
def k23c4 : Code := { maxStack := 3, maxLocals := 3, code := jdk_68_method_22_code, exceptionTable := #[], attributes := #[] }
def k23m4 : Method := { name := "append", desc := "(Ljava/lang/String;)Ljava/lang/AbstractStringBuilder;", sig := { parameters := [(.object "java/lang/String")], returnType := some (.object "java/lang/AbstractStringBuilder") }, accessFlags := 1, code := some k23c4 }
def k23c5 : Code := { maxStack := 1, maxLocals := 1, code := jdk_68_method_64_code, exceptionTable := #[], attributes := #[] }
def k23m5 : Method := { name := "getValue", desc := "()[B", sig := { parameters := [], returnType := some (.array .byte) }, accessFlags := 16, code := some k23c5 }
def k23c6 : Code := { maxStack := 1, maxLocals := 1, code := jdk_68_method_68_code, exceptionTable := #[], attributes := #[] }
def k23m6 : Method := { name := "isLatin1", desc := "()Z", sig := { parameters := [], returnType := some .boolean }, accessFlags := 16, code := some k23c6 }
def k23c7 : Code := { maxStack := 2, maxLocals := 2, code := jdk_68_method_71_code, exceptionTable := #[], attributes := #[] }
def k23m7 : Method := { name := "inflateIfNeededFor", desc := "(Ljava/lang/String;)V", sig := { parameters := [(.object "java/lang/String")], returnType := none }, accessFlags := 2, code := some k23c7 }
def k23c8 : Code := { maxStack := 4, maxLocals := 3, code := jdk_68_method_73_code, exceptionTable := #[], attributes := #[] }
def k23m8 : Method := { name := "putStringAt", desc := "(ILjava/lang/String;)V", sig := { parameters := [.int, (.object "java/lang/String")], returnType := none }, accessFlags := 2, code := some k23c8 }
/-- java/lang/AbstractStringBuilder -/
def k23 : Class := { plain "java/lang/AbstractStringBuilder" (some 0) with
  accessFlags := 1056
  interfaces := #[22, 4]
  cf := some (fileOf pool23 10 #[] #[{ accessFlags := 0, nameIndex := 7, descriptorIndex := 8, attributes := #[] }, { accessFlags := 0, nameIndex := 7, descriptorIndex := 103, attributes := #[] }, { accessFlags := 1, nameIndex := 34, descriptorIndex := 35, attributes := #[] }, { accessFlags := 2, nameIndex := 102, descriptorIndex := 103, attributes := #[] }, { accessFlags := 1, nameIndex := 45, descriptorIndex := 46, attributes := #[] }, { accessFlags := 16, nameIndex := 552, descriptorIndex := 403, attributes := #[] }, { accessFlags := 16, nameIndex := 85, descriptorIndex := 86, attributes := #[] }, { accessFlags := 2, nameIndex := 217, descriptorIndex := 69, attributes := #[] }, { accessFlags := 2, nameIndex := 210, descriptorIndex := 211, attributes := #[] }] 1056 4 #[444, 48] #[{ accessFlags := 0, nameIndex := 17, descriptorIndex := 14, attributes := #[] }, { accessFlags := 0, nameIndex := 24, descriptorIndex := 25, attributes := #[] }, { accessFlags := 0, nameIndex := 75, descriptorIndex := 21, attributes := #[] }, { accessFlags := 0, nameIndex := 81, descriptorIndex := 82, attributes := #[] }, { accessFlags := 26, nameIndex := 13, descriptorIndex := 14, attributes := #[] }])
  fields := #[{ name := "value", type := (.array .byte), accessFlags := 0, slot := 0, constantValue := 0 }, { name := "coder", type := .byte, accessFlags := 0, slot := 1, constantValue := 0 }, { name := "maybeLatin1", type := .boolean, accessFlags := 0, slot := 2, constantValue := 0 }, { name := "count", type := .int, accessFlags := 0, slot := 3, constantValue := 0 }, { name := "EMPTYVALUE", type := (.array .byte), accessFlags := 26, slot := 0, constantValue := 0 }]
  methods := #[k23m0, k23m1, k23m2, k23m3, k23m4, k23m5, k23m6, k23m7, k23m8]
  instanceTypes := #[(.array .byte), .byte, .boolean, .int]
  staticTypes := #[(.array .byte)]
  resolved := Array.replicate 609 none
  statics := none }

def pool24 : Array CpInfo := pool [(1, .methodref 2 3), (0, .class_ 4), (0, .nameAndType 5 6), (0, u "java/lang/AbstractStringBuilder"), (0, u "<init>"), (0, u "(I)V"), (11, .class_ 20), (1, u "java/lang/String"), (3, .class_ 26), (1, u "java/lang/StringBuilder"), (0, u "append"), (0, u "(Ljava/lang/String;)Ljava/lang/StringBuilder;"), (0, .methodref 2 30), (0, .nameAndType 27 31), (0, u "(Ljava/lang/String;)Ljava/lang/AbstractStringBuilder;"), (105, .methodref 18 138), (0, .nameAndType 5 139), (0, u "(Ljava/lang/StringBuilder;)V"), (5, u "()V"), (10, u "()I"), (186, .methodref 2 344), (0, .nameAndType 345 156), (0, u "length"), (3, .class_ 350), (0, u "java/lang/Appendable"), (0, .class_ 352), (0, u "java/io/Serializable"), (0, .class_ 354), (0, u "java/lang/Comparable"), (0, .class_ 356), (0, u "java/lang/CharSequence"), (0, u "serialVersionUID"), (0, u "J"), (40, u "toString"), (0, u "()Ljava/lang/String;")] 21

def k24c0 : Code := { maxStack := 2, maxLocals := 1, code := jdk_67_method_1_code, exceptionTable := #[], attributes := #[] }
def k24m0 : Method := { name := "<init>", desc := "()V", sig := { parameters := [], returnType := none }, accessFlags := 1, code := some k24c0 }
def k24c1 : Code := { maxStack := 2, maxLocals := 2, code := jdk_67_method_7_code, exceptionTable := #[], attributes := #[] }
def k24m1 : Method := { name := "append", desc := "(Ljava/lang/String;)Ljava/lang/StringBuilder;", sig := { parameters := [(.object "java/lang/String")], returnType := some (.object "java/lang/StringBuilder") }, accessFlags := 1, code := some k24c1 }
def k24c2 : Code := { maxStack := 3, maxLocals := 1, code := jdk_67_method_42_code, exceptionTable := #[], attributes := #[] }
def k24m2 : Method := { name := "toString", desc := "()Ljava/lang/String;", sig := { parameters := [], returnType := some (.object "java/lang/String") }, accessFlags := 1, code := some k24c2 }
def k24c3 : Code := { maxStack := 1, maxLocals := 1, code := jdk_67_method_93_code, exceptionTable := #[], attributes := #[] }
def k24m3 : Method := { name := "length", desc := "()I", sig := { parameters := [], returnType := some .int }, accessFlags := 4161, code := some k24c3 }
/-- java/lang/StringBuilder -/
def k24 : Class := { plain "java/lang/StringBuilder" (some 23) with
  accessFlags := 49
  interfaces := #[22, 2, 3, 4]
  cf := some (fileOf pool24 24 #[] #[{ accessFlags := 1, nameIndex := 5, descriptorIndex := 145, attributes := #[] }, { accessFlags := 1, nameIndex := 27, descriptorIndex := 28, attributes := #[] }, { accessFlags := 1, nameIndex := 399, descriptorIndex := 400, attributes := #[] }, { accessFlags := 4161, nameIndex := 345, descriptorIndex := 156, attributes := #[] }] 49 2 #[349, 351, 353, 355] #[{ accessFlags := 24, nameIndex := 357, descriptorIndex := 358, attributes := #[] }])
  fields := #[{ name := "serialVersionUID", type := .long, accessFlags := 24, slot := 0, constantValue := 0 }]
  methods := #[k24m0, k24m1, k24m2, k24m3]
  instanceTypes := #[(.array .byte), .byte, .boolean, .int]
  staticTypes := #[.long]
  resolved := Array.replicate 422 none
  statics := none }

def pool25 : Array CpInfo := pool [(2, .class_ 4), (1, u "java/lang/Object"), (0, u "<init>"), (0, u "()V"), (1, .class_ 10), (1, u "java/lang/System"), (0, u "allowSecurityManager"), (0, u "I"), (16, u "cons"), (0, u "Ljava/io/Console;"), (77, .class_ 110), (1, u "java/lang/System$CallersHolder"), (43, u "initialErrStream"), (0, u "Ljava/io/PrintStream;"), (19, u "security"), (0, u "Ljava/lang/SecurityManager;"), (31, .class_ 209), (0, u "java/lang/System$1"), (7, u "props"), (0, u "Ljava/util/Properties;"), (2, u "lineSeparator"), (0, u "Ljava/lang/String;"), (96, .class_ 321), (1, u "java/lang/System$LoggerFinder"), (5, .class_ 328), (0, u "java/lang/System$Logger"), (67, u "err"), (2, u "out"), (91, u "notSupportedJnuEncoding"), (15, u "in"), (17, u "initialIn"), (0, u "Ljava/io/InputStream;"), (35, u "bootLayer"), (0, u "Ljava/lang/ModuleLayer;"), (99, .class_ 664), (0, u "java/lang/System$2"), (9, u "NEVER"), (2, u "MAYBE"), (49, u "arraycopy"), (0, u "(Ljava/lang/Object;ILjava/lang/Object;II)V"), (72, .class_ 802), (0, u "java/lang/System$Logger$Level")] 31

def k25m0 : Method := { name := "<init>", desc := "()V", sig := { parameters := [], returnType := none }, accessFlags := 2, code := none }
def k25m1 : Method := { name := "arraycopy", desc := "(Ljava/lang/Object;ILjava/lang/Object;II)V", sig := { parameters := [(.object "java/lang/Object"), .int, (.object "java/lang/Object"), .int, .int], returnType := none }, accessFlags := 265, code := none }
/-- java/lang/System -/
def k25 : Class := { plain "java/lang/System" (some 0) with
  accessFlags := 49
  interfaces := #[]
  cf := some (fileOf pool25 8 #[.nestMembers #[319, 327, 801, 108, 663, 208]] #[{ accessFlags := 2, nameIndex := 5, descriptorIndex := 6, attributes := #[] }, { accessFlags := 265, nameIndex := 727, descriptorIndex := 728, attributes := #[] }] 49 2 #[] #[{ accessFlags := 25, nameIndex := 507, descriptorIndex := 526, attributes := #[] }, { accessFlags := 25, nameIndex := 399, descriptorIndex := 155, attributes := #[] }, { accessFlags := 25, nameIndex := 396, descriptorIndex := 155, attributes := #[] }, { accessFlags := 10, nameIndex := 525, descriptorIndex := 526, attributes := #[] }, { accessFlags := 26, nameIndex := 674, descriptorIndex := 12, attributes := #[] }, { accessFlags := 26, nameIndex := 677, descriptorIndex := 12, attributes := #[] }, { accessFlags := 10, nameIndex := 11, descriptorIndex := 12, attributes := #[] }, { accessFlags := 74, nameIndex := 175, descriptorIndex := 176, attributes := #[] }, { accessFlags := 10, nameIndex := 491, descriptorIndex := 222, attributes := #[] }, { accessFlags := 74, nameIndex := 29, descriptorIndex := 30, attributes := #[] }, { accessFlags := 74, nameIndex := 154, descriptorIndex := 155, attributes := #[] }, { accessFlags := 10, nameIndex := 217, descriptorIndex := 218, attributes := #[] }, { accessFlags := 10, nameIndex := 221, descriptorIndex := 222, attributes := #[] }, { accessFlags := 8, nameIndex := 562, descriptorIndex := 563, attributes := #[] }])
  fields := #[{ name := "in", type := (.object "java/io/InputStream"), accessFlags := 25, slot := 0, constantValue := 0 }, { name := "out", type := (.object "java/io/PrintStream"), accessFlags := 25, slot := 1, constantValue := 0 }, { name := "err", type := (.object "java/io/PrintStream"), accessFlags := 25, slot := 2, constantValue := 0 }, { name := "initialIn", type := (.object "java/io/InputStream"), accessFlags := 10, slot := 3, constantValue := 0 }, { name := "NEVER", type := .int, accessFlags := 26, slot := 4, constantValue := 0 }, { name := "MAYBE", type := .int, accessFlags := 26, slot := 5, constantValue := 0 }, { name := "allowSecurityManager", type := .int, accessFlags := 10, slot := 6, constantValue := 0 }, { name := "security", type := (.object "java/lang/SecurityManager"), accessFlags := 74, slot := 7, constantValue := 0 }, { name := "notSupportedJnuEncoding", type := (.object "java/lang/String"), accessFlags := 10, slot := 8, constantValue := 0 }, { name := "cons", type := (.object "java/io/Console"), accessFlags := 74, slot := 9, constantValue := 0 }, { name := "initialErrStream", type := (.object "java/io/PrintStream"), accessFlags := 74, slot := 10, constantValue := 0 }, { name := "props", type := (.object "java/util/Properties"), accessFlags := 10, slot := 11, constantValue := 0 }, { name := "lineSeparator", type := (.object "java/lang/String"), accessFlags := 10, slot := 12, constantValue := 0 }, { name := "bootLayer", type := (.object "java/lang/ModuleLayer"), accessFlags := 8, slot := 13, constantValue := 0 }]
  methods := #[k25m0, k25m1]
  instanceTypes := #[]
  staticTypes := #[(.object "java/io/InputStream"), (.object "java/io/PrintStream"), (.object "java/io/PrintStream"), (.object "java/io/InputStream"), .int, .int, .int, (.object "java/lang/SecurityManager"), (.object "java/lang/String"), (.object "java/io/Console"), (.object "java/io/PrintStream"), (.object "java/util/Properties"), (.object "java/lang/String"), (.object "java/lang/ModuleLayer")]
  resolved := Array.replicate 834 none
  statics := none }

def pool26 : Array CpInfo := pool [(2, .class_ 4), (1, u "java/lang/Object"), (0, u "<init>"), (0, u "()V"), (7, .class_ 16), (1, u "java/util/Arrays"), (57, .class_ 76), (1, u "java/util/Arrays$NaturalOrder"), (36, .class_ 115), (1, u "java/util/Arrays$LegacyMergeSort"), (1, u "Z"), (21, u "copyOfRange"), (10, .methodref 151 152), (0, .class_ 153), (0, .nameAndType 154 155), (0, u "java/lang/System"), (0, u "arraycopy"), (0, u "(Ljava/lang/Object;ILjava/lang/Object;II)V"), (148, .methodref 305 306), (0, .class_ 307), (0, .nameAndType 308 309), (0, u "java/lang/Math"), (0, u "min"), (0, u "(II)I"), (29, .methodref 14 340), (0, .nameAndType 341 342), (0, u "copyOfRangeByte"), (0, u "([BII)[B"), (0, .methodref 14 344), (0, .nameAndType 345 346), (0, u "checkLength"), (0, u "(II)V"), (28, .class_ 376), (0, u "java/util/Arrays$ArrayList"), (68, u "$assertionsDisabled"), (269, u "MIN_ARRAY_SORT_GRAN"), (0, u "I"), (2, u "INSERTIONSORT_THRESHOLD"), (255, .class_ 976), (0, u "java/util/Arrays$ArrayItr")] 52

def k26m0 : Method := { name := "<init>", desc := "()V", sig := { parameters := [], returnType := none }, accessFlags := 2, code := none }
def k26c1 : Code := { maxStack := 4, maxLocals := 2, code := jdk_65_method_131_code, exceptionTable := #[], attributes := #[] }
def k26m1 : Method := { name := "checkLength", desc := "(II)V", sig := { parameters := [.int, .int], returnType := none }, accessFlags := 10, code := some k26c1 }
def k26c2 : Code := { maxStack := 3, maxLocals := 3, code := jdk_65_method_132_code, exceptionTable := #[], attributes := #[] }
def k26m2 : Method := { name := "copyOfRange", desc := "([BII)[B", sig := { parameters := [(.array .byte), .int, .int], returnType := some (.array .byte) }, accessFlags := 9, code := some k26c2 }
def k26c3 : Code := { maxStack := 6, maxLocals := 5, code := jdk_65_method_133_code, exceptionTable := #[], attributes := #[] }
def k26m3 : Method := { name := "copyOfRangeByte", desc := "([BII)[B", sig := { parameters := [(.array .byte), .int, .int], returnType := some (.array .byte) }, accessFlags := 10, code := some k26c3 }
/-- java/util/Arrays -/
def k26 : Class := { plain "java/util/Arrays" (some 0) with
  accessFlags := 49
  interfaces := #[]
  cf := some (fileOf pool26 14 #[.nestMembers #[975, 375, 113, 74]] #[{ accessFlags := 2, nameIndex := 5, descriptorIndex := 6, attributes := #[] }, { accessFlags := 10, nameIndex := 345, descriptorIndex := 346, attributes := #[] }, { accessFlags := 9, nameIndex := 139, descriptorIndex := 342, attributes := #[] }, { accessFlags := 10, nameIndex := 341, descriptorIndex := 342, attributes := #[] }] 49 2 #[] #[{ accessFlags := 26, nameIndex := 715, descriptorIndex := 716, attributes := #[] }, { accessFlags := 26, nameIndex := 719, descriptorIndex := 716, attributes := #[] }, { accessFlags := 4120, nameIndex := 445, descriptorIndex := 117, attributes := #[] }])
  fields := #[{ name := "MIN_ARRAY_SORT_GRAN", type := .int, accessFlags := 26, slot := 0, constantValue := 0 }, { name := "INSERTIONSORT_THRESHOLD", type := .int, accessFlags := 26, slot := 1, constantValue := 0 }, { name := "$assertionsDisabled", type := .boolean, accessFlags := 4120, slot := 2, constantValue := 0 }]
  methods := #[k26m0, k26m1, k26m2, k26m3]
  instanceTypes := #[]
  staticTypes := #[.int, .int, .boolean]
  resolved := Array.replicate 1029 none
  statics := none }

def pool27 : Array CpInfo := pool [(1, .class_ 2), (0, u "java/lang/Math"), (1, .class_ 6), (1, u "java/lang/Object"), (0, u "<init>"), (0, u "()V"), (89, .class_ 100), (1, u "java/lang/Math$RandomNumberGeneratorHolder"), (71, u "negativeZeroFloatBits"), (0, u "J"), (2, u "negativeZeroDoubleBits"), (24, u "min"), (43, u "$assertionsDisabled"), (0, u "Z"), (88, u "(II)I"), (2, u "twoToTheDoubleScaleDown"), (0, u "D"), (4, u "twoToTheDoubleScaleUp"), (9, u "E"), (3, u "PI"), (2, u "TAU"), (2, u "DEGREES_TO_RADIANS"), (0, u "RADIANS_TO_DEGREES")] 94

def k27m0 : Method := { name := "<init>", desc := "()V", sig := { parameters := [], returnType := none }, accessFlags := 2, code := none }
def k27c1 : Code := { maxStack := 2, maxLocals := 2, code := jdk_29_method_69_code, exceptionTable := #[], attributes := #[] }
def k27m1 : Method := { name := "min", desc := "(II)I", sig := { parameters := [.int, .int], returnType := some .int }, accessFlags := 9, code := some k27c1 }
/-- java/lang/Math -/
def k27 : Class := { plain "java/lang/Math" (some 0) with
  accessFlags := 49
  interfaces := #[]
  cf := some (fileOf pool27 1 #[.nestMembers #[98]] #[{ accessFlags := 2, nameIndex := 7, descriptorIndex := 8, attributes := #[] }, { accessFlags := 9, nameIndex := 201, descriptorIndex := 335, attributes := #[] }] 49 4 #[] #[{ accessFlags := 25, nameIndex := 354, descriptorIndex := 339, attributes := #[] }, { accessFlags := 25, nameIndex := 358, descriptorIndex := 339, attributes := #[] }, { accessFlags := 25, nameIndex := 361, descriptorIndex := 339, attributes := #[] }, { accessFlags := 26, nameIndex := 364, descriptorIndex := 339, attributes := #[] }, { accessFlags := 26, nameIndex := 365, descriptorIndex := 339, attributes := #[] }, { accessFlags := 26, nameIndex := 172, descriptorIndex := 173, attributes := #[] }, { accessFlags := 26, nameIndex := 176, descriptorIndex := 173, attributes := #[] }, { accessFlags := 8, nameIndex := 344, descriptorIndex := 339, attributes := #[] }, { accessFlags := 8, nameIndex := 338, descriptorIndex := 339, attributes := #[] }, { accessFlags := 4120, nameIndex := 245, descriptorIndex := 246, attributes := #[] }])
  fields := #[{ name := "E", type := .double, accessFlags := 25, slot := 0, constantValue := 0 }, { name := "PI", type := .double, accessFlags := 25, slot := 1, constantValue := 0 }, { name := "TAU", type := .double, accessFlags := 25, slot := 2, constantValue := 0 }, { name := "DEGREES_TO_RADIANS", type := .double, accessFlags := 26, slot := 3, constantValue := 0 }, { name := "RADIANS_TO_DEGREES", type := .double, accessFlags := 26, slot := 4, constantValue := 0 }, { name := "negativeZeroFloatBits", type := .long, accessFlags := 26, slot := 5, constantValue := 0 }, { name := "negativeZeroDoubleBits", type := .long, accessFlags := 26, slot := 6, constantValue := 0 }, { name := "twoToTheDoubleScaleUp", type := .double, accessFlags := 8, slot := 7, constantValue := 0 }, { name := "twoToTheDoubleScaleDown", type := .double, accessFlags := 8, slot := 8, constantValue := 0 }, { name := "$assertionsDisabled", type := .boolean, accessFlags := 4120, slot := 9, constantValue := 0 }]
  methods := #[k27m0, k27m1]
  instanceTypes := #[]
  staticTypes := #[.double, .double, .double, .double, .double, .long, .long, .double, .double, .boolean]
  resolved := Array.replicate 460 none
  statics := none }

def pool28 : Array CpInfo := pool [(4, .class_ 6), (1, u "java/lang/Object"), (0, u "<init>"), (0, u "()V"), (5, .class_ 16), (1, u "java/lang/StringLatin1"), (104, u "$assertionsDisabled"), (0, u "Z"), (98, .class_ 223), (1, u "java/lang/StringLatin1$LinesSpliterator"), (57, u "equals"), (0, u "([B[B)Z"), (107, .class_ 391), (0, u "java/lang/StringLatin1$CharsSpliterator")] 3

def k28m0 : Method := { name := "<init>", desc := "()V", sig := { parameters := [], returnType := none }, accessFlags := 0, code := none }
def k28c1 : Code := { maxStack := 3, maxLocals := 3, code := jdk_43_method_13_code, exceptionTable := #[], attributes := #[] }
def k28m1 : Method := { name := "equals", desc := "([B[B)Z", sig := { parameters := [(.array .byte), (.array .byte)], returnType := some .boolean }, accessFlags := 9, code := some k28c1 }
/-- java/lang/StringLatin1 -/
def k28 : Class := { plain "java/lang/StringLatin1" (some 0) with
  accessFlags := 48
  interfaces := #[]
  cf := some (fileOf pool28 14 #[.nestMembers #[390, 221]] #[{ accessFlags := 0, nameIndex := 7, descriptorIndex := 8, attributes := #[] }, { accessFlags := 9, nameIndex := 281, descriptorIndex := 282, attributes := #[] }] 48 4 #[] #[{ accessFlags := 4120, nameIndex := 121, descriptorIndex := 122, attributes := #[] }])
  fields := #[{ name := "$assertionsDisabled", type := .boolean, accessFlags := 4120, slot := 0, constantValue := 0 }]
  methods := #[k28m0, k28m1]
  instanceTypes := #[]
  staticTypes := #[.boolean]
  resolved := Array.replicate 395 none
  statics := none }

def pool29 : Array CpInfo := pool [(1, .methodref 2 3), (0, .class_ 4), (0, .nameAndType 5 6), (0, u "java/util/ImmutableCollections$AbstractImmutableList"), (0, u "<init>"), (0, u "()V"), (0, .methodref 8 9), (0, .class_ 10), (0, .nameAndType 11 12), (0, u "java/util/Objects"), (0, u "requireNonNull"), (0, u "(Ljava/lang/Object;)Ljava/lang/Object;"), (0, .fieldref 14 15), (0, .class_ 16), (0, .nameAndType 17 18), (0, u "java/util/ImmutableCollections$List12"), (0, u "e0"), (0, u "Ljava/lang/Object;"), (0, .fieldref 20 21), (0, .class_ 22), (0, .nameAndType 23 18), (0, u "java/util/ImmutableCollections"), (0, u "EMPTY"), (0, .fieldref 14 25), (0, .nameAndType 26 18), (0, u "e1"), (24, u "size"), (0, u "()I"), (17, .class_ 71), (0, u "java/io/Serializable"), (4, u "(Ljava/lang/Object;)V"), (8, u "(Ljava/lang/Object;Ljava/lang/Object;)V"), (4, u "get"), (0, u "(I)Ljava/lang/Object;")] 33

def k29c0 : Code := { maxStack := 2, maxLocals := 2, code := jdk_44_method_1_code, exceptionTable := #[], attributes := #[] }
def k29m0 : Method := { name := "<init>", desc := "(Ljava/lang/Object;)V", sig := { parameters := [(.object "java/lang/Object")], returnType := none }, accessFlags := 0, code := some k29c0 }
def k29c1 : Code := { maxStack := 2, maxLocals := 3, code := jdk_44_method_2_code, exceptionTable := #[], attributes := #[] }
def k29m1 : Method := { name := "<init>", desc := "(Ljava/lang/Object;Ljava/lang/Object;)V", sig := { parameters := [(.object "java/lang/Object"), (.object "java/lang/Object")], returnType := none }, accessFlags := 0, code := some k29c1 }
def k29c2 : Code := { maxStack := 2, maxLocals := 1, code := jdk_44_method_3_code, exceptionTable := #[], attributes := #[] }
def k29m2 : Method := { name := "size", desc := "()I", sig := { parameters := [], returnType := some .int }, accessFlags := 1, code := some k29c2 }
def k29c3 : Code := { maxStack := 2, maxLocals := 2, code := jdk_44_method_5_code, exceptionTable := #[], attributes := #[] }
def k29m3 : Method := { name := "get", desc := "(I)Ljava/lang/Object;", sig := { parameters := [.int], returnType := some (.object "java/lang/Object") }, accessFlags := 1, code := some k29c3 }
/-- java/util/ImmutableCollections$List12 -/
def k29 : Class := { plain "java/util/ImmutableCollections$List12" (some 19) with
  accessFlags := 48
  interfaces := #[2]
  cf := some (fileOf pool29 14 #[.nestHost 20] #[{ accessFlags := 0, nameIndex := 5, descriptorIndex := 76, attributes := #[] }, { accessFlags := 0, nameIndex := 5, descriptorIndex := 85, attributes := #[] }, { accessFlags := 1, nameIndex := 51, descriptorIndex := 52, attributes := #[] }, { accessFlags := 1, nameIndex := 90, descriptorIndex := 91, attributes := #[] }] 48 2 #[70] #[{ accessFlags := 18, nameIndex := 17, descriptorIndex := 18, attributes := #[] }, { accessFlags := 18, nameIndex := 26, descriptorIndex := 18, attributes := #[] }])
  fields := #[{ name := "e0", type := (.object "java/lang/Object"), accessFlags := 18, slot := 0, constantValue := 0 }, { name := "e1", type := (.object "java/lang/Object"), accessFlags := 18, slot := 1, constantValue := 0 }]
  methods := #[k29m0, k29m1, k29m2, k29m3]
  instanceTypes := #[(.object "java/lang/Object"), (.object "java/lang/Object")]
  staticTypes := #[]
  resolved := Array.replicate 125 none
  statics := none }

def pool30 : Array CpInfo := pool [(2, .class_ 4), (1, u "java/lang/Object"), (0, u "<init>"), (0, u "()V"), (17, .class_ 26), (1, u "jdk/internal/util/Preconditions"), (28, .class_ 56), (0, u "jdk/internal/util/Preconditions$4"), (57, .class_ 115), (0, u "jdk/internal/util/Preconditions$1"), (7, u "SIOOBE_FORMATTER"), (0, u "Ljava/util/function/BiFunction;"), (0, .class_ 126), (0, u "jdk/internal/util/Preconditions$2"), (3, u "AIOOBE_FORMATTER"), (0, .class_ 132), (0, u "jdk/internal/util/Preconditions$3"), (3, u "IOOBE_FORMATTER")] 57

def k30m0 : Method := { name := "<init>", desc := "()V", sig := { parameters := [], returnType := none }, accessFlags := 1, code := none }
/-- jdk/internal/util/Preconditions -/
def k30 : Class := { plain "jdk/internal/util/Preconditions" (some 0) with
  accessFlags := 33
  interfaces := #[]
  cf := some (fileOf pool30 24 #[.nestMembers #[55, 131, 125, 114]] #[{ accessFlags := 1, nameIndex := 5, descriptorIndex := 6, attributes := #[] }] 33 2 #[] #[{ accessFlags := 25, nameIndex := 123, descriptorIndex := 124, attributes := #[] }, { accessFlags := 25, nameIndex := 130, descriptorIndex := 124, attributes := #[] }, { accessFlags := 25, nameIndex := 136, descriptorIndex := 124, attributes := #[] }])
  fields := #[{ name := "SIOOBE_FORMATTER", type := (.object "java/util/function/BiFunction"), accessFlags := 25, slot := 0, constantValue := 0 }, { name := "AIOOBE_FORMATTER", type := (.object "java/util/function/BiFunction"), accessFlags := 25, slot := 1, constantValue := 0 }, { name := "IOOBE_FORMATTER", type := (.object "java/util/function/BiFunction"), accessFlags := 25, slot := 2, constantValue := 0 }]
  methods := #[k30m0]
  instanceTypes := #[]
  staticTypes := #[(.object "java/util/function/BiFunction"), (.object "java/util/function/BiFunction"), (.object "java/util/function/BiFunction")]
  resolved := Array.replicate 194 none
  statics := some 2 }

def pool31 : Array CpInfo := pool [(9, u "<init>"), (6, .class_ 18), (1, u "java/lang/Object"), (0, u "()V"), (1, .class_ 23), (1, u "jdk/internal/util/ArraysSupport"), (0, u "LOG2_ARRAY_LONG_INDEX_SCALE"), (0, u "I"), (2, u "U"), (0, u "Ljdk/internal/misc/Unsafe;"), (8, u "BIG_ENDIAN"), (0, u "Z"), (8, u "LOG2_BYTE_BIT_SIZE"), (4, u "LOG2_ARRAY_INT_INDEX_SCALE"), (54, u "JLA"), (0, u "Ljdk/internal/access/JavaLangAccess;"), (11, u "LOG2_ARRAY_BOOLEAN_INDEX_SCALE"), (9, u "LOG2_ARRAY_BYTE_INDEX_SCALE"), (5, u "LOG2_ARRAY_CHAR_INDEX_SCALE"), (5, u "LOG2_ARRAY_SHORT_INDEX_SCALE"), (18, u "LOG2_ARRAY_FLOAT_INDEX_SCALE"), (24, u "LOG2_ARRAY_DOUBLE_INDEX_SCALE"), (89, u "T_BOOLEAN"), (2, u "T_CHAR"), (1, u "T_FLOAT"), (1, u "T_DOUBLE"), (1, u "T_BYTE"), (1, u "T_SHORT"), (1, u "T_INT"), (1, u "T_LONG"), (1, u "SOFT_MAX_ARRAY_LENGTH")] 83

def k31m0 : Method := { name := "<init>", desc := "()V", sig := { parameters := [], returnType := none }, accessFlags := 2, code := none }
/-- jdk/internal/util/ArraysSupport -/
def k31 : Class := { plain "jdk/internal/util/ArraysSupport" (some 0) with
  accessFlags := 33
  interfaces := #[]
  cf := some (fileOf pool31 21 #[] #[{ accessFlags := 2, nameIndex := 9, descriptorIndex := 19, attributes := #[] }] 33 16 #[] #[{ accessFlags := 24, nameIndex := 28, descriptorIndex := 29, attributes := #[] }, { accessFlags := 26, nameIndex := 38, descriptorIndex := 39, attributes := #[] }, { accessFlags := 25, nameIndex := 121, descriptorIndex := 25, attributes := #[] }, { accessFlags := 25, nameIndex := 131, descriptorIndex := 25, attributes := #[] }, { accessFlags := 25, nameIndex := 137, descriptorIndex := 25, attributes := #[] }, { accessFlags := 25, nameIndex := 143, descriptorIndex := 25, attributes := #[] }, { accessFlags := 25, nameIndex := 53, descriptorIndex := 25, attributes := #[] }, { accessFlags := 25, nameIndex := 24, descriptorIndex := 25, attributes := #[] }, { accessFlags := 25, nameIndex := 162, descriptorIndex := 25, attributes := #[] }, { accessFlags := 25, nameIndex := 187, descriptorIndex := 25, attributes := #[] }, { accessFlags := 26, nameIndex := 48, descriptorIndex := 25, attributes := #[] }, { accessFlags := 25, nameIndex := 277, descriptorIndex := 25, attributes := #[] }, { accessFlags := 25, nameIndex := 280, descriptorIndex := 25, attributes := #[] }, { accessFlags := 25, nameIndex := 282, descriptorIndex := 25, attributes := #[] }, { accessFlags := 25, nameIndex := 284, descriptorIndex := 25, attributes := #[] }, { accessFlags := 25, nameIndex := 286, descriptorIndex := 25, attributes := #[] }, { accessFlags := 25, nameIndex := 288, descriptorIndex := 25, attributes := #[] }, { accessFlags := 25, nameIndex := 290, descriptorIndex := 25, attributes := #[] }, { accessFlags := 25, nameIndex := 292, descriptorIndex := 25, attributes := #[] }, { accessFlags := 26, nameIndex := 108, descriptorIndex := 109, attributes := #[] }, { accessFlags := 25, nameIndex := 294, descriptorIndex := 25, attributes := #[] }])
  fields := #[{ name := "U", type := (.object "jdk/internal/misc/Unsafe"), accessFlags := 24, slot := 0, constantValue := 0 }, { name := "BIG_ENDIAN", type := .boolean, accessFlags := 26, slot := 1, constantValue := 0 }, { name := "LOG2_ARRAY_BOOLEAN_INDEX_SCALE", type := .int, accessFlags := 25, slot := 2, constantValue := 0 }, { name := "LOG2_ARRAY_BYTE_INDEX_SCALE", type := .int, accessFlags := 25, slot := 3, constantValue := 0 }, { name := "LOG2_ARRAY_CHAR_INDEX_SCALE", type := .int, accessFlags := 25, slot := 4, constantValue := 0 }, { name := "LOG2_ARRAY_SHORT_INDEX_SCALE", type := .int, accessFlags := 25, slot := 5, constantValue := 0 }, { name := "LOG2_ARRAY_INT_INDEX_SCALE", type := .int, accessFlags := 25, slot := 6, constantValue := 0 }, { name := "LOG2_ARRAY_LONG_INDEX_SCALE", type := .int, accessFlags := 25, slot := 7, constantValue := 0 }, { name := "LOG2_ARRAY_FLOAT_INDEX_SCALE", type := .int, accessFlags := 25, slot := 8, constantValue := 0 }, { name := "LOG2_ARRAY_DOUBLE_INDEX_SCALE", type := .int, accessFlags := 25, slot := 9, constantValue := 0 }, { name := "LOG2_BYTE_BIT_SIZE", type := .int, accessFlags := 26, slot := 10, constantValue := 0 }, { name := "T_BOOLEAN", type := .int, accessFlags := 25, slot := 11, constantValue := 0 }, { name := "T_CHAR", type := .int, accessFlags := 25, slot := 12, constantValue := 0 }, { name := "T_FLOAT", type := .int, accessFlags := 25, slot := 13, constantValue := 0 }, { name := "T_DOUBLE", type := .int, accessFlags := 25, slot := 14, constantValue := 0 }, { name := "T_BYTE", type := .int, accessFlags := 25, slot := 15, constantValue := 0 }, { name := "T_SHORT", type := .int, accessFlags := 25, slot := 16, constantValue := 0 }, { name := "T_INT", type := .int, accessFlags := 25, slot := 17, constantValue := 0 }, { name := "T_LONG", type := .int, accessFlags := 25, slot := 18, constantValue := 0 }, { name := "JLA", type := (.object "jdk/internal/access/JavaLangAccess"), accessFlags := 26, slot := 19, constantValue := 0 }, { name := "SOFT_MAX_ARRAY_LENGTH", type := .int, accessFlags := 25, slot := 20, constantValue := 0 }]
  methods := #[k31m0]
  instanceTypes := #[]
  staticTypes := #[(.object "jdk/internal/misc/Unsafe"), .boolean, .int, .int, .int, .int, .int, .int, .int, .int, .int, .int, .int, .int, .int, .int, .int, .int, .int, (.object "jdk/internal/access/JavaLangAccess"), .int]
  resolved := Array.replicate 378 none
  statics := none }

def pool32 : Array CpInfo := pool [(1, u "java/lang/Cloneable"), (0, .class_ 1), (0, u "java/lang/Object"), (0, .class_ 3)] 3

/-- java/lang/Cloneable -/
def k32 : Class := { plain "java/lang/Cloneable" (some 0) with
  accessFlags := 1537
  interfaces := #[]
  cf := some (fileOf pool32 2 #[] #[] 1537 4 #[] #[])
  fields := #[]
  methods := #[]
  instanceTypes := #[]
  staticTypes := #[]
  resolved := Array.replicate 8 none
  statics := none }

/-- the primitive byte -/
def k33 : Class := { plain "byte" none with kind := .primitive 'B', accessFlags := 0x411 }
/-- [B -/
def k34 : Class := { plain "[B" (some 0) with kind := .array 33 .byte, interfaces := #[32, 2], accessFlags := 1041 }

/-- the primitive char -/
def k35 : Class := { plain "char" none with kind := .primitive 'C', accessFlags := 0x411 }
/-- [C -/
def k36 : Class := { plain "[C" (some 0) with kind := .array 35 .char, interfaces := #[32, 2], accessFlags := 1041 }

/-- the primitive int -/
def k37 : Class := { plain "int" none with kind := .primitive 'I', accessFlags := 0x411 }
/-- [I -/
def k38 : Class := { plain "[I" (some 0) with kind := .array 37 .int, interfaces := #[32, 2], accessFlags := 1041 }

/-- [Ljava/lang/Object; -/
def k39 : Class := { plain "[Ljava/lang/Object;" (some 0) with kind := .array 0 (.object "java/lang/Object"), interfaces := #[32, 2], accessFlags := 1041 }

/-- [Ljava/lang/String; -/
def k40 : Class := { plain "[Ljava/lang/String;" (some 0) with kind := .array 7 (.object "java/lang/String"), interfaces := #[32, 2], accessFlags := 1041 }

def heap : Heap := #[{ cls := 7, slots := #[.long 0, .int 1, .null, .int 0, .null, .int 0, .int 0], vm := .statics 7 },
  { cls := 15, slots := #[.long 0, .int 0, .null, .ref 5, .ref 4, .null, .null, .null, .int 0, .int 1], vm := .statics 15 },
  { cls := 30, slots := #[.null, .null, .null], vm := .statics 30 },
  { cls := 39, slots := #[], vm := .none },
  { cls := 20, slots := #[.ref 3, .int 0], vm := .none },
  { cls := 0, slots := #[], vm := .none }]
def classes : Array Class := #[k0, k1, k2, k3, k4, k5, k6, k7, k8, k9, k10, k11, k12, k13, k14, k15, k16, k17, k18, k19, k20, k21, k22, k23, k24, k25, k26, k27, k28, k29, k30, k31, k32, k33, k34, k35, k36, k37, k38, k39, k40]
def interned : List (Array UInt16 × Addr) := []
def slotsUsed : Nat := 22
def theMethod : MethodId := ⟨1, 3⟩
def args0 : Array Value := #[.int 5, .int 7, .int 3, .int 9]
def aboutOver (below : List Frame) : State where
  vm := { classes := classes, interned := interned.toArray }
  heap := heap
  slotsUsed := slotsUsed
  threads := #[{ frames := .invoking theMethod args0 :: below }]
def below0 : List Frame := [.native { method := ⟨0, 0⟩, args := #[] }]
def about1 : State := aboutOver below0
def p0 : Program := .bare "" "" ""
def e0 : Env := launch0.env 0 0 0
theorem w_frames : about1.frames = Frame.invoking theMethod args0 :: below0 := rfl
set_option maxRecDepth 65536 in
theorem w_args : argsFit about1.vm theMethod args0 = true := by decide +kernel
set_option maxRecDepth 65536 in
theorem w_heap : heapFits about1 = true := by decide +kernel
set_option maxRecDepth 65536 in
theorem w_runnable : about1.curStatus? = some .runnable := by decide +kernel
set_option maxRecDepth 65536 in
theorem w_alone : about1.alone = true := by decide +kernel
set_option maxRecDepth 65536 in
theorem w_named : about1.methodNamed? x = some theMethod := by decide +kernel
set_option maxRecDepth 65536 in
theorem w_hears : about1.hears theMethod below0 = true := by decide +kernel
set_option maxRecDepth 65536 in
theorem w_ripe : about1.ripe theMethod args0 below0 = true := by decide +kernel
theorem w_running : about1.status = .running := rfl
set_option maxRecDepth 65536 in
theorem w_room : about1.hasRoom e0.platform room_1 = true :=
  launch0.hasRoom_least _ room_1 (by decide +kernel) (by decide +kernel) (by decide +kernel) (by decide +kernel) (by decide +kernel) (by decide +kernel)
theorem allAtoms_all (ts : List Jvm.Cond) (a : Array Jvm.Value) (st : Jvm.State) : (allAtoms ts).before a st = ts.all (fun c => c.before a st) := by
  induction ts with
  | nil => rfl
  | cons c t ih =>
    show (Jvm.Cond.and c (allAtoms t)).before a st = _
    rw [Jvm.Cond.before_and, ih, List.all_cons]
def words1 : List Jvm.Cond := Jvm.Cond.code x code maxLocals ret :: tables_1
/-- a 'code' word, met by the world's own term for the bytes: nothing is compared byte by byte -/
theorem code_word {y : MethodName} {bytes : ByteArray} {mx : Nat} {rt : Option FieldType} {a : Array Value} {s : State} {m : MethodId} {meth : Method} {c : Code} (h1 : s.methodNamed? y = some m) (h2 : s.vm.method? m = some meth) (h3 : meth.code = some c) (h4 : c.code = bytes)
    (h5 : (c.maxLocals == mx && c.exceptionTable.isEmpty && decide (c.maxStack ≤ mostOperands) && decide (meth.sig.returnType = rt) && !meth.locks && decide (parseMethodDescriptor y.desc = some meth.sig)) = true) : (Jvm.Cond.code y bytes mx rt).before a s = true := by
  simp only [Bool.and_eq_true, beq_iff_eq, Bool.not_eq_true', decide_eq_true_eq] at h5
  obtain ⟨⟨⟨⟨⟨g1, g2⟩, g3⟩, g4⟩, g5⟩, g6⟩ := h5
  simp [Cond.before, Cond.holds, Cond.value, h1, h2, h3, h4, g1, g2, g3, g4, g5, g6]
def isCode : Jvm.Cond → Bool
  | .code _ _ _ _ => true
  | _ => false
theorem all_split {L : List Jvm.Cond} {P : Jvm.Cond → Bool} (h1 : L.all (fun c => isCode c || P c) = true) (h2 : ∀ c ∈ L.filter isCode, P c = true) : L.all P = true := by
  refine List.all_eq_true.mpr fun c hc => ?_
  have h := List.all_eq_true.mp h1 c hc
  rcases Bool.eq_false_or_eq_true (isCode c) with hi | hi
  · exact h2 c (List.mem_filter.mpr ⟨hc, hi⟩)
  · simpa [hi] using h
set_option maxRecDepth 65536 in
theorem w_c0 : (Jvm.Cond.code x code maxLocals ret).before args0 about1 = true := code_word (m := ⟨1, 3⟩) (meth := k1m3) (c := k1c3) (by decide +kernel) rfl rfl rfl (by decide +kernel)
set_option maxRecDepth 65536 in
theorem w_c1 : (Jvm.Cond.code ({ cls := "com/example/attributes_to_claims/attributestoclaims/cli/OptionFlagPinLaw", name := "name", desc := "(I)Ljava/lang/String;" } : Jvm.MethodName) method_2_code (3 : Nat) (Option.some (Jvm.ClassFile.FieldType.object "java/lang/String"))).before args0 about1 = true := code_word (m := ⟨1, 1⟩) (meth := k1m1) (c := k1c1) (by decide +kernel) rfl rfl rfl (by decide +kernel)
set_option maxRecDepth 65536 in
theorem w_c2 : (Jvm.Cond.code ({ cls := "java/lang/String", name := "<init>", desc := "([C)V" } : Jvm.MethodName) jdk_42_method_3_code (2 : Nat) (Option.none : Option Jvm.ClassFile.FieldType)).before args0 about1 = true := code_word (m := ⟨7, 1⟩) (meth := k7m1) (c := k7c1) (by decide +kernel) rfl rfl rfl (by decide +kernel)
set_option maxRecDepth 65536 in
theorem w_c3 : (Jvm.Cond.code ({ cls := "java/lang/String", name := "<init>", desc := "([CIILjava/lang/Void;)V" } : Jvm.MethodName) jdk_42_method_149_code (6 : Nat) (Option.none : Option Jvm.ClassFile.FieldType)).before args0 about1 = true := code_word (m := ⟨7, 7⟩) (meth := k7m7) (c := k7c7) (by decide +kernel) rfl rfl rfl (by decide +kernel)
set_option maxRecDepth 65536 in
theorem w_c4 : (Jvm.Cond.code ({ cls := "java/lang/Object", name := "<init>", desc := "()V" } : Jvm.MethodName) object_method_1_code (1 : Nat) (Option.none : Option Jvm.ClassFile.FieldType)).before args0 about1 = true := code_word (m := ⟨0, 0⟩) (meth := k0m0) (c := k0c0) (by decide +kernel) rfl rfl rfl (by decide +kernel)
set_option maxRecDepth 65536 in
theorem w_c5 : (Jvm.Cond.code ({ cls := "java/lang/StringUTF16", name := "compress", desc := "([CII)[B" } : Jvm.MethodName) jdk_52_method_16_code (6 : Nat) (Option.some (Jvm.ClassFile.FieldType.array Jvm.ClassFile.FieldType.byte))).before args0 about1 = true := code_word (m := ⟨8, 2⟩) (meth := k8m2) (c := k8c2) (by decide +kernel) rfl rfl rfl (by decide +kernel)
set_option maxRecDepth 65536 in
theorem w_c6 : (Jvm.Cond.code ({ cls := "java/lang/StringUTF16", name := "compress", desc := "([CI[BII)I" } : Jvm.MethodName) jdk_52_method_21_code (7 : Nat) (Option.some Jvm.ClassFile.FieldType.int)).before args0 about1 = true := code_word (m := ⟨8, 3⟩) (meth := k8m3) (c := k8c3) (by decide +kernel) rfl rfl rfl (by decide +kernel)
set_option maxRecDepth 65536 in
theorem w_c7 : (Jvm.Cond.code ({ cls := "java/lang/StringUTF16", name := "coderFromArrayLen", desc := "([BI)B" } : Jvm.MethodName) jdk_52_method_15_code (2 : Nat) (Option.some Jvm.ClassFile.FieldType.byte)).before args0 about1 = true := code_word (m := ⟨8, 1⟩) (meth := k8m1) (c := k8c1) (by decide +kernel) rfl rfl rfl (by decide +kernel)
set_option maxRecDepth 65536 in
theorem w_c8 : (Jvm.Cond.code ({ cls := "com/example/attributes_to_claims/attributestoclaims/cli/CommandArguments$Option", name := "flag", desc := "([Ljava/lang/String;)Lcom/example/attributes_to_claims/attributestoclaims/cli/CommandArguments$Option;" } : Jvm.MethodName) prog_62_method_3_code (1 : Nat) (Option.some (Jvm.ClassFile.FieldType.object "com/example/attributes_to_claims/attributestoclaims/cli/CommandArguments$Option"))).before args0 about1 = true := code_word (m := ⟨10, 1⟩) (meth := k10m1) (c := k10c1) (by decide +kernel) rfl rfl rfl (by decide +kernel)
set_option maxRecDepth 65536 in
theorem w_c9 : (Jvm.Cond.code ({ cls := "java/util/List", name := "of", desc := "([Ljava/lang/Object;)Ljava/util/List;" } : Jvm.MethodName) jdk_40_method_47_code (2 : Nat) (Option.some (Jvm.ClassFile.FieldType.object "java/util/List"))).before args0 about1 = true := code_word (m := ⟨14, 2⟩) (meth := k14m2) (c := k14c2) (by decide +kernel) rfl rfl rfl (by decide +kernel)
set_option maxRecDepth 65536 in
theorem w_c10 : (Jvm.Cond.code ({ cls := "com/example/attributes_to_claims/attributestoclaims/cli/CommandArguments$Option", name := "<init>", desc := "(Ljava/util/List;Ljava/lang/String;Z)V" } : Jvm.MethodName) prog_62_method_1_code (4 : Nat) (Option.none : Option Jvm.ClassFile.FieldType)).before args0 about1 = true := code_word (m := ⟨10, 0⟩) (meth := k10m0) (c := k10c0) (by decide +kernel) rfl rfl rfl (by decide +kernel)
set_option maxRecDepth 65536 in
theorem w_c11 : (Jvm.Cond.code ({ cls := "java/lang/Record", name := "<init>", desc := "()V" } : Jvm.MethodName) jdk_30_method_1_code (1 : Nat) (Option.none : Option Jvm.ClassFile.FieldType)).before args0 about1 = true := code_word (m := ⟨9, 0⟩) (meth := k9m0) (c := k9c0) (by decide +kernel) rfl rfl rfl (by decide +kernel)
set_option maxRecDepth 65536 in
theorem w_c12 : (Jvm.Cond.code ({ cls := "com/example/attributes_to_claims/attributestoclaims/cli/CommandArguments$Option", name := "names", desc := "()Ljava/util/List;" } : Jvm.MethodName) prog_62_method_9_code (1 : Nat) (Option.some (Jvm.ClassFile.FieldType.object "java/util/List"))).before args0 about1 = true := code_word (m := ⟨10, 4⟩) (meth := k10m4) (c := k10c4) (by decide +kernel) rfl rfl rfl (by decide +kernel)
set_option maxRecDepth 65536 in
theorem w_c13 : (Jvm.Cond.code ({ cls := "java/util/ImmutableCollections$ListN", name := "size", desc := "()I" } : Jvm.MethodName) jdk_45_method_3_code (1 : Nat) (Option.some Jvm.ClassFile.FieldType.int)).before args0 about1 = true := code_word (m := ⟨20, 1⟩) (meth := k20m1) (c := k20c1) (by decide +kernel) rfl rfl rfl (by decide +kernel)
set_option maxRecDepth 65536 in
theorem w_c14 : (Jvm.Cond.code ({ cls := "com/example/attributes_to_claims/attributestoclaims/cli/CommandArguments$Option", name := "label", desc := "()Ljava/lang/String;" } : Jvm.MethodName) prog_62_method_10_code (1 : Nat) (Option.some (Jvm.ClassFile.FieldType.object "java/lang/String"))).before args0 about1 = true := code_word (m := ⟨10, 5⟩) (meth := k10m5) (c := k10c5) (by decide +kernel) rfl rfl rfl (by decide +kernel)
set_option maxRecDepth 65536 in
theorem w_c15 : (Jvm.Cond.code ({ cls := "java/lang/String", name := "isEmpty", desc := "()Z" } : Jvm.MethodName) jdk_42_method_55_code (1 : Nat) (Option.some Jvm.ClassFile.FieldType.boolean)).before args0 about1 = true := code_word (m := ⟨7, 4⟩) (meth := k7m4) (c := k7c4) (by decide +kernel) rfl rfl rfl (by decide +kernel)
set_option maxRecDepth 65536 in
theorem w_c16 : (Jvm.Cond.code ({ cls := "com/example/attributes_to_claims/attributestoclaims/cli/CommandArguments$Option", name := "repeatable", desc := "()Z" } : Jvm.MethodName) prog_62_method_11_code (1 : Nat) (Option.some Jvm.ClassFile.FieldType.boolean)).before args0 about1 = true := code_word (m := ⟨10, 6⟩) (meth := k10m6) (c := k10c6) (by decide +kernel) rfl rfl rfl (by decide +kernel)
set_option maxRecDepth 65536 in
theorem w_c17 : (Jvm.Cond.code ({ cls := "com/example/attributes_to_claims/attributestoclaims/cli/CommandArguments$Option", name := "isFlag", desc := "()Z" } : Jvm.MethodName) prog_62_method_4_code (1 : Nat) (Option.some Jvm.ClassFile.FieldType.boolean)).before args0 about1 = true := code_word (m := ⟨10, 2⟩) (meth := k10m2) (c := k10c2) (by decide +kernel) rfl rfl rfl (by decide +kernel)
set_option maxRecDepth 65536 in
theorem w_c18 : (Jvm.Cond.code ({ cls := "java/util/ImmutableCollections", name := "listFromArray", desc := "([Ljava/lang/Object;)Ljava/util/List;" } : Jvm.MethodName) jdk_56_method_4_code (3 : Nat) (Option.some (Jvm.ClassFile.FieldType.object "java/util/List"))).before args0 about1 = true := code_word (m := ⟨15, 1⟩) (meth := k15m1) (c := k15c1) (by decide +kernel) rfl rfl rfl (by decide +kernel)
set_option maxRecDepth 65536 in
theorem w_c19 : (Jvm.Cond.code ({ cls := "java/util/Objects", name := "requireNonNull", desc := "(Ljava/lang/Object;)Ljava/lang/Object;" } : Jvm.MethodName) jdk_31_method_10_code (1 : Nat) (Option.some (Jvm.ClassFile.FieldType.object "java/lang/Object"))).before args0 about1 = true := code_word (m := ⟨21, 1⟩) (meth := k21m1) (c := k21c1) (by decide +kernel) rfl rfl rfl (by decide +kernel)
set_option maxRecDepth 65536 in
theorem w_c20 : (Jvm.Cond.code ({ cls := "java/util/ImmutableCollections$ListN", name := "<init>", desc := "([Ljava/lang/Object;Z)V" } : Jvm.MethodName) jdk_45_method_1_code (3 : Nat) (Option.none : Option Jvm.ClassFile.FieldType)).before args0 about1 = true := code_word (m := ⟨20, 0⟩) (meth := k20m0) (c := k20c0) (by decide +kernel) rfl rfl rfl (by decide +kernel)
set_option maxRecDepth 65536 in
theorem w_c21 : (Jvm.Cond.code ({ cls := "java/util/ImmutableCollections$AbstractImmutableList", name := "<init>", desc := "()V" } : Jvm.MethodName) jdk_46_method_1_code (1 : Nat) (Option.none : Option Jvm.ClassFile.FieldType)).before args0 about1 = true := code_word (m := ⟨19, 0⟩) (meth := k19m0) (c := k19c0) (by decide +kernel) rfl rfl rfl (by decide +kernel)
set_option maxRecDepth 65536 in
theorem w_c22 : (Jvm.Cond.code ({ cls := "java/util/ImmutableCollections$AbstractImmutableCollection", name := "<init>", desc := "()V" } : Jvm.MethodName) jdk_47_method_1_code (1 : Nat) (Option.none : Option Jvm.ClassFile.FieldType)).before args0 about1 = true := code_word (m := ⟨17, 0⟩) (meth := k17m0) (c := k17c0) (by decide +kernel) rfl rfl rfl (by decide +kernel)
set_option maxRecDepth 65536 in
theorem w_c23 : (Jvm.Cond.code ({ cls := "java/util/AbstractCollection", name := "<init>", desc := "()V" } : Jvm.MethodName) jdk_22_method_1_code (1 : Nat) (Option.none : Option Jvm.ClassFile.FieldType)).before args0 about1 = true := code_word (m := ⟨16, 0⟩) (meth := k16m0) (c := k16c0) (by decide +kernel) rfl rfl rfl (by decide +kernel)
set_option maxRecDepth 65536 in
theorem w_c24 : (Jvm.Cond.code ({ cls := "java/util/ImmutableCollections$ListN", name := "get", desc := "(I)Ljava/lang/Object;" } : Jvm.MethodName) jdk_45_method_4_code (2 : Nat) (Option.some (Jvm.ClassFile.FieldType.object "java/lang/Object"))).before args0 about1 = true := code_word (m := ⟨20, 2⟩) (meth := k20m2) (c := k20c2) (by decide +kernel) rfl rfl rfl (by decide +kernel)
set_option maxRecDepth 65536 in
theorem w_c25 : (Jvm.Cond.code ({ cls := "java/lang/String", name := "equals", desc := "(Ljava/lang/Object;)Z" } : Jvm.MethodName) jdk_42_method_66_code (3 : Nat) (Option.some Jvm.ClassFile.FieldType.boolean)).before args0 about1 = true := code_word (m := ⟨7, 5⟩) (meth := k7m5) (c := k7c5) (by decide +kernel) rfl rfl rfl (by decide +kernel)
set_option maxRecDepth 65536 in
theorem w_c26 : (Jvm.Cond.code ({ cls := "com/example/attributes_to_claims/attributestoclaims/cli/CommandArguments$Option", name := "quoted", desc := "()Ljava/lang/String;" } : Jvm.MethodName) prog_62_method_5_code (2 : Nat) (Option.some (Jvm.ClassFile.FieldType.object "java/lang/String"))).before args0 about1 = true := code_word (m := ⟨10, 3⟩) (meth := k10m3) (c := k10c3) (by decide +kernel) rfl rfl rfl (by decide +kernel)
set_option maxRecDepth 65536 in
theorem w_c27 : (Jvm.Cond.code ({ cls := "java/lang/StringBuilder", name := "<init>", desc := "()V" } : Jvm.MethodName) jdk_67_method_1_code (1 : Nat) (Option.none : Option Jvm.ClassFile.FieldType)).before args0 about1 = true := code_word (m := ⟨24, 0⟩) (meth := k24m0) (c := k24c0) (by decide +kernel) rfl rfl rfl (by decide +kernel)
set_option maxRecDepth 65536 in
theorem w_c28 : (Jvm.Cond.code ({ cls := "java/lang/AbstractStringBuilder", name := "<init>", desc := "(I)V" } : Jvm.MethodName) jdk_68_method_2_code (2 : Nat) (Option.none : Option Jvm.ClassFile.FieldType)).before args0 about1 = true := code_word (m := ⟨23, 1⟩) (meth := k23m1) (c := k23c1) (by decide +kernel) rfl rfl rfl (by decide +kernel)
set_option maxRecDepth 65536 in
theorem w_c29 : (Jvm.Cond.code ({ cls := "java/lang/StringBuilder", name := "append", desc := "(Ljava/lang/String;)Ljava/lang/StringBuilder;" } : Jvm.MethodName) jdk_67_method_7_code (2 : Nat) (Option.some (Jvm.ClassFile.FieldType.object "java/lang/StringBuilder"))).before args0 about1 = true := code_word (m := ⟨24, 1⟩) (meth := k24m1) (c := k24c1) (by decide +kernel) rfl rfl rfl (by decide +kernel)
set_option maxRecDepth 65536 in
theorem w_c30 : (Jvm.Cond.code ({ cls := "java/lang/AbstractStringBuilder", name := "append", desc := "(Ljava/lang/String;)Ljava/lang/AbstractStringBuilder;" } : Jvm.MethodName) jdk_68_method_22_code (3 : Nat) (Option.some (Jvm.ClassFile.FieldType.object "java/lang/AbstractStringBuilder"))).before args0 about1 = true := code_word (m := ⟨23, 4⟩) (meth := k23m4) (c := k23c4) (by decide +kernel) rfl rfl rfl (by decide +kernel)
set_option maxRecDepth 65536 in
theorem w_c31 : (Jvm.Cond.code ({ cls := "java/lang/String", name := "length", desc := "()I" } : Jvm.MethodName) jdk_42_method_54_code (1 : Nat) (Option.some Jvm.ClassFile.FieldType.int)).before args0 about1 = true := code_word (m := ⟨7, 3⟩) (meth := k7m3) (c := k7c3) (by decide +kernel) rfl rfl rfl (by decide +kernel)
set_option maxRecDepth 65536 in
theorem w_c32 : (Jvm.Cond.code ({ cls := "java/lang/String", name := "coder", desc := "()B" } : Jvm.MethodName) jdk_42_method_152_code (1 : Nat) (Option.some Jvm.ClassFile.FieldType.byte)).before args0 about1 = true := code_word (m := ⟨7, 9⟩) (meth := k7m9) (c := k7c9) (by decide +kernel) rfl rfl rfl (by decide +kernel)
set_option maxRecDepth 65536 in
theorem w_c33 : (Jvm.Cond.code ({ cls := "java/lang/AbstractStringBuilder", name := "ensureCapacityInternal", desc := "(I)V" } : Jvm.MethodName) jdk_68_method_9_code (3 : Nat) (Option.none : Option Jvm.ClassFile.FieldType)).before args0 about1 = true := code_word (m := ⟨23, 3⟩) (meth := k23m3) (c := k23c3) (by decide +kernel) rfl rfl rfl (by decide +kernel)
set_option maxRecDepth 65536 in
theorem w_c34 : (Jvm.Cond.code ({ cls := "java/lang/AbstractStringBuilder", name := "putStringAt", desc := "(ILjava/lang/String;)V" } : Jvm.MethodName) jdk_68_method_73_code (3 : Nat) (Option.none : Option Jvm.ClassFile.FieldType)).before args0 about1 = true := code_word (m := ⟨23, 8⟩) (meth := k23m8) (c := k23c8) (by decide +kernel) rfl rfl rfl (by decide +kernel)
set_option maxRecDepth 65536 in
theorem w_c35 : (Jvm.Cond.code ({ cls := "java/lang/AbstractStringBuilder", name := "inflateIfNeededFor", desc := "(Ljava/lang/String;)V" } : Jvm.MethodName) jdk_68_method_71_code (2 : Nat) (Option.none : Option Jvm.ClassFile.FieldType)).before args0 about1 = true := code_word (m := ⟨23, 7⟩) (meth := k23m7) (c := k23c7) (by decide +kernel) rfl rfl rfl (by decide +kernel)
set_option maxRecDepth 65536 in
theorem w_c36 : (Jvm.Cond.code ({ cls := "java/lang/String", name := "getBytes", desc := "([BIB)V" } : Jvm.MethodName) jdk_42_method_147_code (4 : Nat) (Option.none : Option Jvm.ClassFile.FieldType)).before args0 about1 = true := code_word (m := ⟨7, 6⟩) (meth := k7m6) (c := k7c6) (by decide +kernel) rfl rfl rfl (by decide +kernel)
set_option maxRecDepth 65536 in
theorem w_c37 : (Jvm.Cond.code ({ cls := "java/lang/StringBuilder", name := "toString", desc := "()Ljava/lang/String;" } : Jvm.MethodName) jdk_67_method_42_code (1 : Nat) (Option.some (Jvm.ClassFile.FieldType.object "java/lang/String"))).before args0 about1 = true := code_word (m := ⟨24, 2⟩) (meth := k24m2) (c := k24c2) (by decide +kernel) rfl rfl rfl (by decide +kernel)
set_option maxRecDepth 65536 in
theorem w_c38 : (Jvm.Cond.code ({ cls := "java/lang/String", name := "<init>", desc := "(Ljava/lang/StringBuilder;)V" } : Jvm.MethodName) jdk_42_method_53_code (2 : Nat) (Option.none : Option Jvm.ClassFile.FieldType)).before args0 about1 = true := code_word (m := ⟨7, 2⟩) (meth := k7m2) (c := k7c2) (by decide +kernel) rfl rfl rfl (by decide +kernel)
set_option maxRecDepth 65536 in
theorem w_c39 : (Jvm.Cond.code ({ cls := "java/lang/String", name := "<init>", desc := "(Ljava/lang/AbstractStringBuilder;Ljava/lang/Void;)V" } : Jvm.MethodName) jdk_42_method_150_code (5 : Nat) (Option.none : Option Jvm.ClassFile.FieldType)).before args0 about1 = true := code_word (m := ⟨7, 8⟩) (meth := k7m8) (c := k7c8) (by decide +kernel) rfl rfl rfl (by decide +kernel)
set_option maxRecDepth 65536 in
theorem w_c40 : (Jvm.Cond.code ({ cls := "java/lang/AbstractStringBuilder", name := "getValue", desc := "()[B" } : Jvm.MethodName) jdk_68_method_64_code (1 : Nat) (Option.some (Jvm.ClassFile.FieldType.array Jvm.ClassFile.FieldType.byte))).before args0 about1 = true := code_word (m := ⟨23, 5⟩) (meth := k23m5) (c := k23c5) (by decide +kernel) rfl rfl rfl (by decide +kernel)
set_option maxRecDepth 65536 in
theorem w_c41 : (Jvm.Cond.code ({ cls := "java/lang/StringBuilder", name := "length", desc := "()I" } : Jvm.MethodName) jdk_67_method_93_code (1 : Nat) (Option.some Jvm.ClassFile.FieldType.int)).before args0 about1 = true := code_word (m := ⟨24, 3⟩) (meth := k24m3) (c := k24c3) (by decide +kernel) rfl rfl rfl (by decide +kernel)
set_option maxRecDepth 65536 in
theorem w_c42 : (Jvm.Cond.code ({ cls := "java/lang/AbstractStringBuilder", name := "length", desc := "()I" } : Jvm.MethodName) jdk_68_method_6_code (1 : Nat) (Option.some Jvm.ClassFile.FieldType.int)).before args0 about1 = true := code_word (m := ⟨23, 2⟩) (meth := k23m2) (c := k23c2) (by decide +kernel) rfl rfl rfl (by decide +kernel)
set_option maxRecDepth 65536 in
theorem w_c43 : (Jvm.Cond.code ({ cls := "java/lang/AbstractStringBuilder", name := "isLatin1", desc := "()Z" } : Jvm.MethodName) jdk_68_method_68_code (1 : Nat) (Option.some Jvm.ClassFile.FieldType.boolean)).before args0 about1 = true := code_word (m := ⟨23, 6⟩) (meth := k23m6) (c := k23c6) (by decide +kernel) rfl rfl rfl (by decide +kernel)
set_option maxRecDepth 65536 in
theorem w_c44 : (Jvm.Cond.code ({ cls := "java/util/Arrays", name := "copyOfRange", desc := "([BII)[B" } : Jvm.MethodName) jdk_65_method_132_code (3 : Nat) (Option.some (Jvm.ClassFile.FieldType.array Jvm.ClassFile.FieldType.byte))).before args0 about1 = true := code_word (m := ⟨26, 2⟩) (meth := k26m2) (c := k26c2) (by decide +kernel) rfl rfl rfl (by decide +kernel)
set_option maxRecDepth 65536 in
theorem w_c45 : (Jvm.Cond.code ({ cls := "java/util/Arrays", name := "copyOfRangeByte", desc := "([BII)[B" } : Jvm.MethodName) jdk_65_method_133_code (5 : Nat) (Option.some (Jvm.ClassFile.FieldType.array Jvm.ClassFile.FieldType.byte))).before args0 about1 = true := code_word (m := ⟨26, 3⟩) (meth := k26m3) (c := k26c3) (by decide +kernel) rfl rfl rfl (by decide +kernel)
set_option maxRecDepth 65536 in
theorem w_c46 : (Jvm.Cond.code ({ cls := "java/util/Arrays", name := "checkLength", desc := "(II)V" } : Jvm.MethodName) jdk_65_method_131_code (2 : Nat) (Option.none : Option Jvm.ClassFile.FieldType)).before args0 about1 = true := code_word (m := ⟨26, 1⟩) (meth := k26m1) (c := k26c1) (by decide +kernel) rfl rfl rfl (by decide +kernel)
set_option maxRecDepth 65536 in
theorem w_c47 : (Jvm.Cond.code ({ cls := "java/lang/Math", name := "min", desc := "(II)I" } : Jvm.MethodName) jdk_29_method_69_code (2 : Nat) (Option.some Jvm.ClassFile.FieldType.int)).before args0 about1 = true := code_word (m := ⟨27, 1⟩) (meth := k27m1) (c := k27c1) (by decide +kernel) rfl rfl rfl (by decide +kernel)
set_option maxRecDepth 65536 in
theorem w_c48 : (Jvm.Cond.code ({ cls := "com/example/attributes_to_claims/attributestoclaims/cli/OptionFlagPinLaw", name := "quotedOf", desc := "(I)Ljava/lang/String;" } : Jvm.MethodName) method_3_code (3 : Nat) (Option.some (Jvm.ClassFile.FieldType.object "java/lang/String"))).before args0 about1 = true := code_word (m := ⟨1, 2⟩) (meth := k1m2) (c := k1c2) (by decide +kernel) rfl rfl rfl (by decide +kernel)
set_option maxRecDepth 65536 in
theorem w_c49 : (Jvm.Cond.code ({ cls := "java/lang/StringLatin1", name := "equals", desc := "([B[B)Z" } : Jvm.MethodName) jdk_43_method_13_code (3 : Nat) (Option.some Jvm.ClassFile.FieldType.boolean)).before args0 about1 = true := code_word (m := ⟨28, 1⟩) (meth := k28m1) (c := k28c1) (by decide +kernel) rfl rfl rfl (by decide +kernel)
set_option maxRecDepth 65536 in
theorem w_c50 : (Jvm.Cond.code ({ cls := "java/util/ImmutableCollections$List12", name := "<init>", desc := "(Ljava/lang/Object;Ljava/lang/Object;)V" } : Jvm.MethodName) jdk_44_method_2_code (3 : Nat) (Option.none : Option Jvm.ClassFile.FieldType)).before args0 about1 = true := code_word (m := ⟨29, 1⟩) (meth := k29m1) (c := k29c1) (by decide +kernel) rfl rfl rfl (by decide +kernel)
set_option maxRecDepth 65536 in
theorem w_c51 : (Jvm.Cond.code ({ cls := "java/util/ImmutableCollections$List12", name := "size", desc := "()I" } : Jvm.MethodName) jdk_44_method_3_code (1 : Nat) (Option.some Jvm.ClassFile.FieldType.int)).before args0 about1 = true := code_word (m := ⟨29, 2⟩) (meth := k29m2) (c := k29c2) (by decide +kernel) rfl rfl rfl (by decide +kernel)
set_option maxRecDepth 65536 in
theorem w_c52 : (Jvm.Cond.code ({ cls := "java/util/ImmutableCollections$List12", name := "get", desc := "(I)Ljava/lang/Object;" } : Jvm.MethodName) jdk_44_method_5_code (2 : Nat) (Option.some (Jvm.ClassFile.FieldType.object "java/lang/Object"))).before args0 about1 = true := code_word (m := ⟨29, 3⟩) (meth := k29m3) (c := k29c3) (by decide +kernel) rfl rfl rfl (by decide +kernel)
set_option maxRecDepth 65536 in
theorem w_c53 : (Jvm.Cond.code ({ cls := "java/util/ImmutableCollections$List12", name := "<init>", desc := "(Ljava/lang/Object;)V" } : Jvm.MethodName) jdk_44_method_1_code (2 : Nat) (Option.none : Option Jvm.ClassFile.FieldType)).before args0 about1 = true := code_word (m := ⟨29, 0⟩) (meth := k29m0) (c := k29c0) (by decide +kernel) rfl rfl rfl (by decide +kernel)
def codes1 : List Jvm.Cond := [Jvm.Cond.code x code maxLocals ret, Jvm.Cond.code ({ cls := "com/example/attributes_to_claims/attributestoclaims/cli/OptionFlagPinLaw", name := "name", desc := "(I)Ljava/lang/String;" } : Jvm.MethodName) method_2_code (3 : Nat) (Option.some (Jvm.ClassFile.FieldType.object "java/lang/String")), Jvm.Cond.code ({ cls := "java/lang/String", name := "<init>", desc := "([C)V" } : Jvm.MethodName) jdk_42_method_3_code (2 : Nat) (Option.none : Option Jvm.ClassFile.FieldType), Jvm.Cond.code ({ cls := "java/lang/String", name := "<init>", desc := "([CIILjava/lang/Void;)V" } : Jvm.MethodName) jdk_42_method_149_code (6 : Nat) (Option.none : Option Jvm.ClassFile.FieldType), Jvm.Cond.code ({ cls := "java/lang/Object", name := "<init>", desc := "()V" } : Jvm.MethodName) object_method_1_code (1 : Nat) (Option.none : Option Jvm.ClassFile.FieldType), Jvm.Cond.code ({ cls := "java/lang/StringUTF16", name := "compress", desc := "([CII)[B" } : Jvm.MethodName) jdk_52_method_16_code (6 : Nat) (Option.some (Jvm.ClassFile.FieldType.array Jvm.ClassFile.FieldType.byte)), Jvm.Cond.code ({ cls := "java/lang/StringUTF16", name := "compress", desc := "([CI[BII)I" } : Jvm.MethodName) jdk_52_method_21_code (7 : Nat) (Option.some Jvm.ClassFile.FieldType.int), Jvm.Cond.code ({ cls := "java/lang/StringUTF16", name := "coderFromArrayLen", desc := "([BI)B" } : Jvm.MethodName) jdk_52_method_15_code (2 : Nat) (Option.some Jvm.ClassFile.FieldType.byte), Jvm.Cond.code ({ cls := "com/example/attributes_to_claims/attributestoclaims/cli/CommandArguments$Option", name := "flag", desc := "([Ljava/lang/String;)Lcom/example/attributes_to_claims/attributestoclaims/cli/CommandArguments$Option;" } : Jvm.MethodName) prog_62_method_3_code (1 : Nat) (Option.some (Jvm.ClassFile.FieldType.object "com/example/attributes_to_claims/attributestoclaims/cli/CommandArguments$Option")), Jvm.Cond.code ({ cls := "java/util/List", name := "of", desc := "([Ljava/lang/Object;)Ljava/util/List;" } : Jvm.MethodName) jdk_40_method_47_code (2 : Nat) (Option.some (Jvm.ClassFile.FieldType.object "java/util/List")), Jvm.Cond.code ({ cls := "com/example/attributes_to_claims/attributestoclaims/cli/CommandArguments$Option", name := "<init>", desc := "(Ljava/util/List;Ljava/lang/String;Z)V" } : Jvm.MethodName) prog_62_method_1_code (4 : Nat) (Option.none : Option Jvm.ClassFile.FieldType), Jvm.Cond.code ({ cls := "java/lang/Record", name := "<init>", desc := "()V" } : Jvm.MethodName) jdk_30_method_1_code (1 : Nat) (Option.none : Option Jvm.ClassFile.FieldType), Jvm.Cond.code ({ cls := "com/example/attributes_to_claims/attributestoclaims/cli/CommandArguments$Option", name := "names", desc := "()Ljava/util/List;" } : Jvm.MethodName) prog_62_method_9_code (1 : Nat) (Option.some (Jvm.ClassFile.FieldType.object "java/util/List")), Jvm.Cond.code ({ cls := "java/util/ImmutableCollections$ListN", name := "size", desc := "()I" } : Jvm.MethodName) jdk_45_method_3_code (1 : Nat) (Option.some Jvm.ClassFile.FieldType.int), Jvm.Cond.code ({ cls := "com/example/attributes_to_claims/attributestoclaims/cli/CommandArguments$Option", name := "label", desc := "()Ljava/lang/String;" } : Jvm.MethodName) prog_62_method_10_code (1 : Nat) (Option.some (Jvm.ClassFile.FieldType.object "java/lang/String")), Jvm.Cond.code ({ cls := "java/lang/String", name := "isEmpty", desc := "()Z" } : Jvm.MethodName) jdk_42_method_55_code (1 : Nat) (Option.some Jvm.ClassFile.FieldType.boolean), Jvm.Cond.code ({ cls := "com/example/attributes_to_claims/attributestoclaims/cli/CommandArguments$Option", name := "repeatable", desc := "()Z" } : Jvm.MethodName) prog_62_method_11_code (1 : Nat) (Option.some Jvm.ClassFile.FieldType.boolean), Jvm.Cond.code ({ cls := "com/example/attributes_to_claims/attributestoclaims/cli/CommandArguments$Option", name := "isFlag", desc := "()Z" } : Jvm.MethodName) prog_62_method_4_code (1 : Nat) (Option.some Jvm.ClassFile.FieldType.boolean), Jvm.Cond.code ({ cls := "java/util/ImmutableCollections", name := "listFromArray", desc := "([Ljava/lang/Object;)Ljava/util/List;" } : Jvm.MethodName) jdk_56_method_4_code (3 : Nat) (Option.some (Jvm.ClassFile.FieldType.object "java/util/List")), Jvm.Cond.code ({ cls := "java/util/Objects", name := "requireNonNull", desc := "(Ljava/lang/Object;)Ljava/lang/Object;" } : Jvm.MethodName) jdk_31_method_10_code (1 : Nat) (Option.some (Jvm.ClassFile.FieldType.object "java/lang/Object")), Jvm.Cond.code ({ cls := "java/util/ImmutableCollections$ListN", name := "<init>", desc := "([Ljava/lang/Object;Z)V" } : Jvm.MethodName) jdk_45_method_1_code (3 : Nat) (Option.none : Option Jvm.ClassFile.FieldType), Jvm.Cond.code ({ cls := "java/util/ImmutableCollections$AbstractImmutableList", name := "<init>", desc := "()V" } : Jvm.MethodName) jdk_46_method_1_code (1 : Nat) (Option.none : Option Jvm.ClassFile.FieldType), Jvm.Cond.code ({ cls := "java/util/ImmutableCollections$AbstractImmutableCollection", name := "<init>", desc := "()V" } : Jvm.MethodName) jdk_47_method_1_code (1 : Nat) (Option.none : Option Jvm.ClassFile.FieldType), Jvm.Cond.code ({ cls := "java/util/AbstractCollection", name := "<init>", desc := "()V" } : Jvm.MethodName) jdk_22_method_1_code (1 : Nat) (Option.none : Option Jvm.ClassFile.FieldType), Jvm.Cond.code ({ cls := "java/util/ImmutableCollections$ListN", name := "get", desc := "(I)Ljava/lang/Object;" } : Jvm.MethodName) jdk_45_method_4_code (2 : Nat) (Option.some (Jvm.ClassFile.FieldType.object "java/lang/Object")), Jvm.Cond.code ({ cls := "java/lang/String", name := "equals", desc := "(Ljava/lang/Object;)Z" } : Jvm.MethodName) jdk_42_method_66_code (3 : Nat) (Option.some Jvm.ClassFile.FieldType.boolean), Jvm.Cond.code ({ cls := "com/example/attributes_to_claims/attributestoclaims/cli/CommandArguments$Option", name := "quoted", desc := "()Ljava/lang/String;" } : Jvm.MethodName) prog_62_method_5_code (2 : Nat) (Option.some (Jvm.ClassFile.FieldType.object "java/lang/String")), Jvm.Cond.code ({ cls := "java/lang/StringBuilder", name := "<init>", desc := "()V" } : Jvm.MethodName) jdk_67_method_1_code (1 : Nat) (Option.none : Option Jvm.ClassFile.FieldType), Jvm.Cond.code ({ cls := "java/lang/AbstractStringBuilder", name := "<init>", desc := "(I)V" } : Jvm.MethodName) jdk_68_method_2_code (2 : Nat) (Option.none : Option Jvm.ClassFile.FieldType), Jvm.Cond.code ({ cls := "java/lang/StringBuilder", name := "append", desc := "(Ljava/lang/String;)Ljava/lang/StringBuilder;" } : Jvm.MethodName) jdk_67_method_7_code (2 : Nat) (Option.some (Jvm.ClassFile.FieldType.object "java/lang/StringBuilder")), Jvm.Cond.code ({ cls := "java/lang/AbstractStringBuilder", name := "append", desc := "(Ljava/lang/String;)Ljava/lang/AbstractStringBuilder;" } : Jvm.MethodName) jdk_68_method_22_code (3 : Nat) (Option.some (Jvm.ClassFile.FieldType.object "java/lang/AbstractStringBuilder")), Jvm.Cond.code ({ cls := "java/lang/String", name := "length", desc := "()I" } : Jvm.MethodName) jdk_42_method_54_code (1 : Nat) (Option.some Jvm.ClassFile.FieldType.int), Jvm.Cond.code ({ cls := "java/lang/String", name := "coder", desc := "()B" } : Jvm.MethodName) jdk_42_method_152_code (1 : Nat) (Option.some Jvm.ClassFile.FieldType.byte), Jvm.Cond.code ({ cls := "java/lang/AbstractStringBuilder", name := "ensureCapacityInternal", desc := "(I)V" } : Jvm.MethodName) jdk_68_method_9_code (3 : Nat) (Option.none : Option Jvm.ClassFile.FieldType), Jvm.Cond.code ({ cls := "java/lang/AbstractStringBuilder", name := "putStringAt", desc := "(ILjava/lang/String;)V" } : Jvm.MethodName) jdk_68_method_73_code (3 : Nat) (Option.none : Option Jvm.ClassFile.FieldType), Jvm.Cond.code ({ cls := "java/lang/AbstractStringBuilder", name := "inflateIfNeededFor", desc := "(Ljava/lang/String;)V" } : Jvm.MethodName) jdk_68_method_71_code (2 : Nat) (Option.none : Option Jvm.ClassFile.FieldType), Jvm.Cond.code ({ cls := "java/lang/String", name := "getBytes", desc := "([BIB)V" } : Jvm.MethodName) jdk_42_method_147_code (4 : Nat) (Option.none : Option Jvm.ClassFile.FieldType), Jvm.Cond.code ({ cls := "java/lang/StringBuilder", name := "toString", desc := "()Ljava/lang/String;" } : Jvm.MethodName) jdk_67_method_42_code (1 : Nat) (Option.some (Jvm.ClassFile.FieldType.object "java/lang/String")), Jvm.Cond.code ({ cls := "java/lang/String", name := "<init>", desc := "(Ljava/lang/StringBuilder;)V" } : Jvm.MethodName) jdk_42_method_53_code (2 : Nat) (Option.none : Option Jvm.ClassFile.FieldType), Jvm.Cond.code ({ cls := "java/lang/String", name := "<init>", desc := "(Ljava/lang/AbstractStringBuilder;Ljava/lang/Void;)V" } : Jvm.MethodName) jdk_42_method_150_code (5 : Nat) (Option.none : Option Jvm.ClassFile.FieldType), Jvm.Cond.code ({ cls := "java/lang/AbstractStringBuilder", name := "getValue", desc := "()[B" } : Jvm.MethodName) jdk_68_method_64_code (1 : Nat) (Option.some (Jvm.ClassFile.FieldType.array Jvm.ClassFile.FieldType.byte)), Jvm.Cond.code ({ cls := "java/lang/StringBuilder", name := "length", desc := "()I" } : Jvm.MethodName) jdk_67_method_93_code (1 : Nat) (Option.some Jvm.ClassFile.FieldType.int), Jvm.Cond.code ({ cls := "java/lang/AbstractStringBuilder", name := "length", desc := "()I" } : Jvm.MethodName) jdk_68_method_6_code (1 : Nat) (Option.some Jvm.ClassFile.FieldType.int), Jvm.Cond.code ({ cls := "java/lang/AbstractStringBuilder", name := "isLatin1", desc := "()Z" } : Jvm.MethodName) jdk_68_method_68_code (1 : Nat) (Option.some Jvm.ClassFile.FieldType.boolean), Jvm.Cond.code ({ cls := "java/util/Arrays", name := "copyOfRange", desc := "([BII)[B" } : Jvm.MethodName) jdk_65_method_132_code (3 : Nat) (Option.some (Jvm.ClassFile.FieldType.array Jvm.ClassFile.FieldType.byte)), Jvm.Cond.code ({ cls := "java/util/Arrays", name := "copyOfRangeByte", desc := "([BII)[B" } : Jvm.MethodName) jdk_65_method_133_code (5 : Nat) (Option.some (Jvm.ClassFile.FieldType.array Jvm.ClassFile.FieldType.byte)), Jvm.Cond.code ({ cls := "java/util/Arrays", name := "checkLength", desc := "(II)V" } : Jvm.MethodName) jdk_65_method_131_code (2 : Nat) (Option.none : Option Jvm.ClassFile.FieldType), Jvm.Cond.code ({ cls := "java/lang/Math", name := "min", desc := "(II)I" } : Jvm.MethodName) jdk_29_method_69_code (2 : Nat) (Option.some Jvm.ClassFile.FieldType.int), Jvm.Cond.code ({ cls := "com/example/attributes_to_claims/attributestoclaims/cli/OptionFlagPinLaw", name := "quotedOf", desc := "(I)Ljava/lang/String;" } : Jvm.MethodName) method_3_code (3 : Nat) (Option.some (Jvm.ClassFile.FieldType.object "java/lang/String")), Jvm.Cond.code ({ cls := "java/lang/StringLatin1", name := "equals", desc := "([B[B)Z" } : Jvm.MethodName) jdk_43_method_13_code (3 : Nat) (Option.some Jvm.ClassFile.FieldType.boolean), Jvm.Cond.code ({ cls := "java/util/ImmutableCollections$List12", name := "<init>", desc := "(Ljava/lang/Object;Ljava/lang/Object;)V" } : Jvm.MethodName) jdk_44_method_2_code (3 : Nat) (Option.none : Option Jvm.ClassFile.FieldType), Jvm.Cond.code ({ cls := "java/util/ImmutableCollections$List12", name := "size", desc := "()I" } : Jvm.MethodName) jdk_44_method_3_code (1 : Nat) (Option.some Jvm.ClassFile.FieldType.int), Jvm.Cond.code ({ cls := "java/util/ImmutableCollections$List12", name := "get", desc := "(I)Ljava/lang/Object;" } : Jvm.MethodName) jdk_44_method_5_code (2 : Nat) (Option.some (Jvm.ClassFile.FieldType.object "java/lang/Object")), Jvm.Cond.code ({ cls := "java/util/ImmutableCollections$List12", name := "<init>", desc := "(Ljava/lang/Object;)V" } : Jvm.MethodName) jdk_44_method_1_code (2 : Nat) (Option.none : Option Jvm.ClassFile.FieldType)]
set_option maxRecDepth 65536 in
theorem codes_eq : words1.filter isCode = codes1 := rfl
theorem w_codes : ∀ c ∈ words1.filter isCode, c.before args0 about1 = true := by
  rw [codes_eq]
  intro c hc
  simp only [codes1, List.mem_cons, List.not_mem_nil, or_false] at hc
  rcases hc with rfl | rfl | rfl | rfl | rfl | rfl | rfl | rfl | rfl | rfl | rfl | rfl | rfl | rfl | rfl | rfl | rfl | rfl | rfl | rfl | rfl | rfl | rfl | rfl | rfl | rfl | rfl | rfl | rfl | rfl | rfl | rfl | rfl | rfl | rfl | rfl | rfl | rfl | rfl | rfl | rfl | rfl | rfl | rfl | rfl | rfl | rfl | rfl | rfl | rfl | rfl | rfl | rfl | rfl
  · exact w_c0
  · exact w_c1
  · exact w_c2
  · exact w_c3
  · exact w_c4
  · exact w_c5
  · exact w_c6
  · exact w_c7
  · exact w_c8
  · exact w_c9
  · exact w_c10
  · exact w_c11
  · exact w_c12
  · exact w_c13
  · exact w_c14
  · exact w_c15
  · exact w_c16
  · exact w_c17
  · exact w_c18
  · exact w_c19
  · exact w_c20
  · exact w_c21
  · exact w_c22
  · exact w_c23
  · exact w_c24
  · exact w_c25
  · exact w_c26
  · exact w_c27
  · exact w_c28
  · exact w_c29
  · exact w_c30
  · exact w_c31
  · exact w_c32
  · exact w_c33
  · exact w_c34
  · exact w_c35
  · exact w_c36
  · exact w_c37
  · exact w_c38
  · exact w_c39
  · exact w_c40
  · exact w_c41
  · exact w_c42
  · exact w_c43
  · exact w_c44
  · exact w_c45
  · exact w_c46
  · exact w_c47
  · exact w_c48
  · exact w_c49
  · exact w_c50
  · exact w_c51
  · exact w_c52
  · exact w_c53
set_option maxRecDepth 65536 in
theorem w_t1 : (words1.take 24).all (fun c => isCode c || c.before args0 about1) = true := by decide +kernel
set_option maxRecDepth 65536 in
theorem w_t2 : ((words1.drop 24).take 24).all (fun c => isCode c || c.before args0 about1) = true := by decide +kernel
set_option maxRecDepth 65536 in
theorem w_t3 : (((words1.drop 24).drop 24).take 24).all (fun c => isCode c || c.before args0 about1) = true := by decide +kernel
set_option maxRecDepth 65536 in
theorem w_t4 : ((((words1.drop 24).drop 24).drop 24).take 24).all (fun c => isCode c || c.before args0 about1) = true := by decide +kernel
set_option maxRecDepth 65536 in
theorem w_t5 : (((((words1.drop 24).drop 24).drop 24).drop 24).take 24).all (fun c => isCode c || c.before args0 about1) = true := by decide +kernel
set_option maxRecDepth 65536 in
theorem w_t6 : ((((((words1.drop 24).drop 24).drop 24).drop 24).drop 24).take 24).all (fun c => isCode c || c.before args0 about1) = true := by decide +kernel
set_option maxRecDepth 65536 in
theorem w_t7 : (((((((words1.drop 24).drop 24).drop 24).drop 24).drop 24).drop 24).take 24).all (fun c => isCode c || c.before args0 about1) = true := by decide +kernel
set_option maxRecDepth 65536 in
theorem w_t8 : ((((((((words1.drop 24).drop 24).drop 24).drop 24).drop 24).drop 24).drop 24).take 24).all (fun c => isCode c || c.before args0 about1) = true := by decide +kernel
set_option maxRecDepth 65536 in
theorem w_t9 : (((((((((words1.drop 24).drop 24).drop 24).drop 24).drop 24).drop 24).drop 24).drop 24).take 24).all (fun c => isCode c || c.before args0 about1) = true := by decide +kernel
set_option maxRecDepth 65536 in
theorem w_t10 : ((((((((((words1.drop 24).drop 24).drop 24).drop 24).drop 24).drop 24).drop 24).drop 24).drop 24).take 24).all (fun c => isCode c || c.before args0 about1) = true := by decide +kernel
set_option maxRecDepth 65536 in
theorem w_t11 : (((((((((((words1.drop 24).drop 24).drop 24).drop 24).drop 24).drop 24).drop 24).drop 24).drop 24).drop 24).take 24).all (fun c => isCode c || c.before args0 about1) = true := by decide +kernel
set_option maxRecDepth 65536 in
theorem w_t12 : ((((((((((((words1.drop 24).drop 24).drop 24).drop 24).drop 24).drop 24).drop 24).drop 24).drop 24).drop 24).drop 24).take 24).all (fun c => isCode c || c.before args0 about1) = true := by decide +kernel
set_option maxRecDepth 65536 in
theorem w_t13 : (((((((((((((words1.drop 24).drop 24).drop 24).drop 24).drop 24).drop 24).drop 24).drop 24).drop 24).drop 24).drop 24).drop 24).take 24).all (fun c => isCode c || c.before args0 about1) = true := by decide +kernel
set_option maxRecDepth 65536 in
theorem w_t14 : (((((((((((((words1.drop 24).drop 24).drop 24).drop 24).drop 24).drop 24).drop 24).drop 24).drop 24).drop 24).drop 24).drop 24).drop 24).all (fun c => isCode c || c.before args0 about1) = true := by decide +kernel
theorem w_tables : (allAtoms (Jvm.Cond.code x code maxLocals ret :: tables_1)).before args0 about1 = true := by
  rw [allAtoms_all]
  show words1.all (fun c => c.before args0 about1) = true
  refine all_split ?_ w_codes
  rw [← List.take_append_drop 24 words1, List.all_append, w_t1, ← List.take_append_drop 24 (words1.drop 24), List.all_append, w_t2, ← List.take_append_drop 24 ((words1.drop 24).drop 24), List.all_append, w_t3, ← List.take_append_drop 24 (((words1.drop 24).drop 24).drop 24), List.all_append, w_t4, ← List.take_append_drop 24 ((((words1.drop 24).drop 24).drop 24).drop 24), List.all_append, w_t5, ← List.take_append_drop 24 (((((words1.drop 24).drop 24).drop 24).drop 24).drop 24), List.all_append, w_t6, ← List.take_append_drop 24 ((((((words1.drop 24).drop 24).drop 24).drop 24).drop 24).drop 24), List.all_append, w_t7, ← List.take_append_drop 24 (((((((words1.drop 24).drop 24).drop 24).drop 24).drop 24).drop 24).drop 24), List.all_append, w_t8, ← List.take_append_drop 24 ((((((((words1.drop 24).drop 24).drop 24).drop 24).drop 24).drop 24).drop 24).drop 24), List.all_append, w_t9, ← List.take_append_drop 24 (((((((((words1.drop 24).drop 24).drop 24).drop 24).drop 24).drop 24).drop 24).drop 24).drop 24), List.all_append, w_t10, ← List.take_append_drop 24 ((((((((((words1.drop 24).drop 24).drop 24).drop 24).drop 24).drop 24).drop 24).drop 24).drop 24).drop 24), List.all_append, w_t11, ← List.take_append_drop 24 (((((((((((words1.drop 24).drop 24).drop 24).drop 24).drop 24).drop 24).drop 24).drop 24).drop 24).drop 24).drop 24), List.all_append, w_t12, ← List.take_append_drop 24 ((((((((((((words1.drop 24).drop 24).drop 24).drop 24).drop 24).drop 24).drop 24).drop 24).drop 24).drop 24).drop 24).drop 24), List.all_append, w_t13, w_t14]
  rfl
set_option maxRecDepth 65536 in
theorem w_rest : rest_1_c.before args0 about1 = true := by decide +kernel
set_option maxRecDepth 65536 in
theorem w_case : (Jvm.Cond.and given_1 narrow_1).before args0 about1 = true := by decide +kernel
set_option maxRecDepth 65536 in
theorem w_consts : constsHeld consts_1 about1 := Jvm.Lit.constsHeldB_iff.mp (by decide +kernel)
theorem w_applies : (headSpec (Jvm.Cond.code x code maxLocals ret :: tables_1) room_1).applies x e0.platform about1 = true :=
  (Spec.applies_iff w_frames).mpr ⟨w_running, w_runnable, w_alone, w_named, w_hears, w_ripe, w_room, w_tables⟩
theorem atStart : AtStart classFile x code maxLocals ret World_1 tables_1 room_1 Calls_1 rest_1 Pre_1 launch0 p0 e0 about1 theMethod args0 below0 :=
  ⟨lists_1, trivial, launch0.admits_env _ _ _, launch0.least_env, fairChoices_fair.cas, fairChoices_fair.clock, w_frames, w_args, w_heap, w_applies, ⟨w_consts, trivial⟩, w_rest, w_case⟩
end start1
theorem witness_1 : WitnessClaimed_1 := ⟨start1.p0, start1.e0, start1.about1, start1.theMethod, start1.args0, start1.below0, start1.atStart⟩
end Jvm.Pilot.@@N@@
