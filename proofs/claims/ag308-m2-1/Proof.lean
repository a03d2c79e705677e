import JvmDerived
import JvmDerived.Pilot.@@N@@Statement
import JvmDerived.Pilot.@@N@@Code
set_option linter.unusedVariables false
set_option linter.unusedSimpArgs false
namespace Jvm.RoadKit
open Sem ClassFile Op Lib Jvm.Stand Jvm.Free Jvm.LawKit
section New
variable {p : Program} {l : Launch} {e : Env} {R : Room} {s : State} {m : MethodId} {args : Array Value} {below : List Frame} {meth : Method} {c : Code} {T : State} {locs : List Loc} {cells slots : Nat}
theorem retI (X : Stand p l e R s m args below meth c T locs cells slots) (hx : p.tables.exec = Jvm.exec) {pc : Nat} {Ls : Array Slot} {z : Int32} {rest : List Value} (hret : meth.sig.returnType = some .int) (hd : decode c.code pc = .ok (.ireturn, 1)) {fs : List Frame}
    (hl : ∀ (f : JFrame) (acts : List Action), f.method = m → f.locked = none → f.entered = [] → (doReturn e (T.setTop f) acts (some (.int z))).1 = T.setFrames fs) : Steps p.tables e below (T.setTop (mkF m pc Ls (.int z :: rest))) (T.setFrames fs) := by
  have hm' : T.vm.method? m = some meth := X.method'
  have hn : narrow .int (.int z) = .int z := rfl
  show Steps p.tables e below (T.setTop { method := m, pc := pc, locals := Ls, stack := _ :: rest, locked := none }) _
  jvm_step X.here [X.here.top, hx, hd, hm', hret, hn]
  first | (intro acts; rw [hl _ acts rfl rfl rfl]) | rw [hl _ _ rfl rfl rfl]
  exact Steps.refl _
/-- from here the invocation comes to an end of which R holds -/
def Goes (p : Program) (e : Env) (below : List Frame) (cur : State) (R : State → Outcome → Prop) : Prop := ∃ s₂ o, Steps p.tables e below cur s₂ ∧ s₂.status = .running ∧ Ended s₂ below o ∧ R s₂ o
theorem Goes.via {cur next : State} {R : State → Outcome → Prop} (k : ∀ t, Steps p.tables e below next t → Steps p.tables e below cur t) (h : Goes p e below next R) : Goes p e below cur R := by
  obtain ⟨s₂, o, h1, h2⟩ := h
  exact ⟨s₂, o, k _ h1, h2⟩
/-- the places written so far, as one unknown list -/
theorem ownPack (X : Stand p l e R s m args below meth c T locs cells slots) {n0 : Nat} (N : Fr n0 locs) : ∃ L, Stand p l e R s m args below meth c T L cells slots ∧ Fr n0 L := ⟨_, X, N⟩
end New
end Jvm.RoadKit
namespace Jvm.RoadKit
open Sem ClassFile Op Lib Jvm.Stand Jvm.Free Jvm.LawKit
section NewS
variable {p : Program} {l : Launch} {e : Env} {R : Room} {s : State} {m : MethodId} {args : Array Value} {below : List Frame} {meth : Method} {c : Code} {T : State} {locs : List Loc} {cells slots : Nat} {Z : State} {a0 : Array Value} {h : Heap}
/-- a callee that may intern, with a word on the tables ahead (I) and behind (in Q) -/
theorem ownBackS {y : MethodName} {bytes : ByteArray} {maxL : Nat} {ret : Option FieldType} {rm : Room} {len W : Nat} {as' : Array Value} {I : Vm → Prop} {Q : Option Value → Heap → Vm → List Loc → Prop}
    (hM : MetFree l y (head1 [Cond.code y bytes maxL ret] rm) (fun a U => a = as' ∧ Z.Warmed39 U.vm ∧ U.heap = h ∧ I U.vm) (fun _ _ _ _ _ => True) (fun _ U o U' => ∃ v L, o = .returned v ∧ Q v U'.heap U'.vm L ∧ ReturnedEndW U o U' L rm.cells rm.slots))
    (hZ : Z.Warmed39 s.vm) (hI : ∀ vm, s.WarmedH vm → I vm) (wc : (Cond.code y bytes maxL ret).before a0 Z = true) (wz : (Cond.initialized y.cls).before a0 Z = true) (hf : rm.frames + 1 ≤ R.frames) (hl : W + (maxL + 11) + rm.locals ≤ R.locals) :
    BackS l R p e below s args y len W (fun A a => a = as' ∧ A.U.heap = h ∧ A.cells + rm.cells ≤ R.cells ∧ A.slots + rm.slots ≤ R.slots)
      (fun A _ v B => ∃ L, Q v B.U.heap B.U.vm L ∧ B.locs = A.locs ++ L ∧ B.cells = A.cells + rm.cells ∧ B.slots = A.slots + rm.slots) :=
  BackS.of_freeW (bytes := bytes) (maxL := maxL) (ret := ret) (E := fun _ _ o t L k n => k = rm.cells ∧ n = rm.slots ∧ ∃ v, o = .returned v ∧ Q v t.heap t.vm L) hM hf hl
    (fun m meth c A a Y hp => have hU : Z.Warmed39 A.U.vm := wtrans hZ Y.warmed
      ⟨by show (Cond.and _ .tt).before a A.U = true; rw [Cond.before_and, mv hU wc]; rfl, mv hU wc, mv hU wz, hp.2.2.1, hp.2.2.2⟩)
    (fun m meth c A a g mk Y hp => ⟨hp.1, wtrans hZ Y.warmed, hp.2.1, hI _ Y.warmed⟩) (fun _ _ _ _ _ _ _ _ _ => trivial)
    (fun _ _ _ _ ⟨v, L, h1, h2, h3⟩ => ⟨L, _, _, h3, rfl, rfl, v, h1, h2⟩)
    (fun m meth c A a g mk v t L k n Y hp _ _ ⟨e1, e2, v', e3, e4⟩ => by cases e3; subst e1 e2; exact ⟨L, e4, rfl, rfl, rfl⟩)
theorem IB.warm {Ts : List String} (I : IB Z s.vm Ts) {vm : Vm} (hW : s.WarmedH vm) : IB Z vm Ts := by
  obtain ⟨more, h1, h2⟩ := I
  exact ⟨more, hW.interned_eq.trans h1, h2⟩
theorem Lit.any {s' : State} {vm : Vm} {own : String} {i : Nat} {a : Addr} (L : Lit (s.setVm vm) own i a) : Lit (s'.setVm vm) own i a := L
theorem Lit.warm {own : String} {i : Nat} {a : Addr} (L : Lit s own i a) {vm : Vm} (hW : s.WarmedH vm) : Lit (s.setVm vm) own i a := State.resolvedAt?_warmed39 (s := s) hW.wide L
end NewS
end Jvm.RoadKit
namespace Jvm.Pilot.@@N@@
open Jvm Jvm.ClassFile Sem Op Lib Jvm.Free Jvm.Stand Jvm.LawKit Jvm.RoadKit Bundle Jvm.Pilot.@@N@@.Jvm.D
def own_St (Z : State) (w0 : Int32) : Prop := Sta Z Z.heap "java/lang/String" "COMPACT_STRINGS" "Z" (.int w0) ∧ ¬ w0 = (0 : Int32) ∧ Sta Z Z.heap "java/lang/StringUTF16" "$assertionsDisabled" "Z" (.int (1 : Int32)) ∧ Sta Z Z.heap "java/lang/StringUTF16" "HI_BYTE_SHIFT" "I" (.int (0 : Int32)) ∧ Sta Z Z.heap "java/lang/StringUTF16" "LO_BYTE_SHIFT" "I" (.int (8 : Int32))
theorem own_c255 (x : Int32) : ¬ ((255 : Int32) < nar .char ((x &&& (255 : Int32)).toUInt32.toUInt16.toUInt32.toInt32)) := by
  have m := c_mask x 255 8 (by decide) (by decide)
  have hp : ((2 ^ 8 : Nat) : Int) = 256 := by decide
  rw [hp] at m
  have c1 := c_i2c (x &&& (255 : Int32))
  have c2 := c_i2c ((x &&& (255 : Int32)).toUInt32.toUInt16.toUInt32.toInt32)
  rw [Int32.lt_iff_toInt_lt, show (255 : Int32).toInt = 255 from by decide]
  show ¬ 255 < ((x &&& (255 : Int32)).toUInt32.toUInt16.toUInt32.toInt32.toUInt32.toUInt16.toUInt32.toInt32).toInt
  omega
theorem own_wS {Z : State} {a0 : Array Value} (hw : ∀ d ∈ tables_1, d.before a0 Z = true) : ∀ a ∈ Bundle.stringAtoms, a.before a0 Z = true := by
  intro a ha
  simp only [Bundle.stringAtoms, Bundle.sN, List.mem_cons, List.not_mem_nil, or_false] at ha
  rcases ha with rfl | rfl | rfl | rfl | rfl | rfl | rfl
  · exact hw _ (List.mem_of_getElem? (i := 8) rfl)
  · exact hw _ (List.mem_of_getElem? (i := 7) rfl)
  · exact hw _ (List.mem_of_getElem? (i := 24) rfl)
  · exact hw _ (List.mem_of_getElem? (i := 34) rfl)
  · exact hw _ (List.mem_of_getElem? (i := 32) rfl)
  · exact hw _ (List.mem_of_getElem? (i := 36) rfl)
  · exact hw _ (List.mem_of_getElem? (i := 37) rfl)
theorem own_chr (x : Int32) : 0 ≤ (nar .char x).toInt ∧ (nar .char x).toInt < 65536 := (c_i2c x).2
theorem own_lo (c : Int32) : ((nar .byte ((c >>> ((0 : Int32) &&& 31)).toInt8.toInt32)) &&& (255 : Int32)).toInt = c.toInt % 256 := by
  have s0 := c_ishr c 0 0 (by decide)
  have b1 := c_i2b (c >>> ((0 : Int32) &&& 31))
  have b2 := c_i2b ((c >>> ((0 : Int32) &&& 31)).toInt8.toInt32)
  have m := c_mask (nar .byte ((c >>> ((0 : Int32) &&& 31)).toInt8.toInt32)) 255 8 (by decide) (by decide)
  have hp : ((2 ^ 8 : Nat) : Int) = 256 := by decide
  have hq : ((2 ^ 0 : Nat) : Int) = 1 := by decide
  rw [hp] at m
  rw [hq] at s0
  have e : (nar .byte ((c >>> ((0 : Int32) &&& 31)).toInt8.toInt32)) = ((c >>> ((0 : Int32) &&& 31)).toInt8.toInt32).toInt8.toInt32 := rfl
  rw [m, e]
  omega
theorem own_hi (c : Int32) (h : 0 ≤ c.toInt ∧ c.toInt < 65536) : ((nar .byte ((c >>> ((8 : Int32) &&& 31)).toInt8.toInt32)) &&& (255 : Int32)).toInt = c.toInt / 256 := by
  have s0 := c_ishr c 8 8 (by decide)
  have b1 := c_i2b (c >>> ((8 : Int32) &&& 31))
  have b2 := c_i2b ((c >>> ((8 : Int32) &&& 31)).toInt8.toInt32)
  have m := c_mask (nar .byte ((c >>> ((8 : Int32) &&& 31)).toInt8.toInt32)) 255 8 (by decide) (by decide)
  have hp : ((2 ^ 8 : Nat) : Int) = 256 := by decide
  rw [hp] at m s0
  have e : (nar .byte ((c >>> ((8 : Int32) &&& 31)).toInt8.toInt32)) = ((c >>> ((8 : Int32) &&& 31)).toInt8.toInt32).toInt8.toInt32 := rfl
  rw [m, e]
  omega
theorem own_big {c : Int32} (h : 0 ≤ c.toInt ∧ c.toInt < 65536) (hc : (255 : Int32) < c) : (255 : Int32) < (nar .char (((((nar .byte ((c >>> ((0 : Int32) &&& 31)).toInt8.toInt32)) &&& (255 : Int32)) <<< ((0 : Int32) &&& 31)) ||| (((nar .byte ((c >>> ((8 : Int32) &&& 31)).toInt8.toInt32)) &&& (255 : Int32)) <<< ((8 : Int32) &&& 31))).toUInt32.toUInt16.toUInt32.toInt32)) := by
  have e255 : (255 : Int32).toInt = 255 := by decide
  rw [Int32.lt_iff_toInt_lt, e255] at hc ⊢
  have lo := own_lo c
  have hi := own_hi c h
  generalize ((nar .byte ((c >>> ((0 : Int32) &&& 31)).toInt8.toInt32)) &&& (255 : Int32)) = x at *
  generalize ((nar .byte ((c >>> ((8 : Int32) &&& 31)).toInt8.toInt32)) &&& (255 : Int32)) = y at *
  have sx := c_ishl x 0 0 (by decide)
  have sy := c_ishl y 8 8 (by decide)
  have hp : ((2 ^ 8 : Nat) : Int) = 256 := by decide
  have hq : ((2 ^ 0 : Nat) : Int) = 1 := by decide
  rw [hp] at sy
  rw [hq] at sx
  have rx := rng32 (x <<< ((0 : Int32) &&& 31))
  have ry := rng32 (y <<< ((8 : Int32) &&& 31))
  generalize hX : x <<< ((0 : Int32) &&& 31) = X at *
  generalize hY : y <<< ((8 : Int32) &&& 31) = Y at *
  have o := c_or' X Y 8 (by decide) 256 (by decide) (by omega) (by omega) (by omega)
  have ro := rng32 (X ||| Y)
  have c1 := c_i2c (X ||| Y)
  have c2 := c_i2c ((X ||| Y).toUInt32.toUInt16.toUInt32.toInt32)
  show 255 < ((X ||| Y).toUInt32.toUInt16.toUInt32.toInt32.toUInt32.toUInt16.toUInt32.toInt32).toInt
  omega
theorem d6_1_0 : decode jdk_52_method_21_code 0 = .ok (.iconst 0, 1) := by decide +kernel
theorem d6_1_1 : decode jdk_52_method_21_code 1 = .ok (.istore 5, 2) := by decide +kernel
theorem d6_1_3 : decode jdk_52_method_21_code 3 = .ok (.iload 5, 2) := by decide +kernel
theorem d6_1_5 : decode jdk_52_method_21_code 5 = .ok (.iload 4, 2) := by decide +kernel
theorem d6_1_7 : decode jdk_52_method_21_code 7 = .ok (.if_icmp .ge 37, 3) := by decide +kernel
theorem d6_1_10 : decode jdk_52_method_21_code 10 = .ok (.aload_n 0, 1) := by decide +kernel
theorem d6_1_11 : decode jdk_52_method_21_code 11 = .ok (.iload_n 1, 1) := by decide +kernel
theorem d6_1_12 : decode jdk_52_method_21_code 12 = .ok (.caload, 1) := by decide +kernel
theorem d6_1_13 : decode jdk_52_method_21_code 13 = .ok (.istore 6, 2) := by decide +kernel
theorem d6_1_15 : decode jdk_52_method_21_code 15 = .ok (.iload 6, 2) := by decide +kernel
theorem d6_1_17 : decode jdk_52_method_21_code 17 = .ok (.sipush 255, 3) := by decide +kernel
theorem d6_1_20 : decode jdk_52_method_21_code 20 = .ok (.if_icmp .le 6, 3) := by decide +kernel
theorem d6_1_26 : decode jdk_52_method_21_code 26 = .ok (.aload_n 2, 1) := by decide +kernel
theorem d6_1_27 : decode jdk_52_method_21_code 27 = .ok (.iload_n 3, 1) := by decide +kernel
theorem d6_1_28 : decode jdk_52_method_21_code 28 = .ok (.iload 6, 2) := by decide +kernel
theorem d6_1_30 : decode jdk_52_method_21_code 30 = .ok (.i2b, 1) := by decide +kernel
theorem d6_1_31 : decode jdk_52_method_21_code 31 = .ok (.bastore, 1) := by decide +kernel
theorem d6_1_32 : decode jdk_52_method_21_code 32 = .ok (.iinc 1 1, 3) := by decide +kernel
theorem d6_1_35 : decode jdk_52_method_21_code 35 = .ok (.iinc 3 1, 3) := by decide +kernel
theorem d6_1_38 : decode jdk_52_method_21_code 38 = .ok (.iinc 5 1, 3) := by decide +kernel
theorem d6_1_41 : decode jdk_52_method_21_code 41 = .ok (.goto (-38), 3) := by decide +kernel
theorem d6_1_44 : decode jdk_52_method_21_code 44 = .ok (.iload 4, 2) := by decide +kernel
theorem d6_1_46 : decode jdk_52_method_21_code 46 = .ok (.ireturn, 1) := by decide +kernel
theorem pn_6_1 : plainName "java/lang/StringUTF16" = true := by first | (simp [plainName, overriddenIn]; done) | decide +kernel
theorem ef_6_1 (m : MethodId) (x0 : Addr) (x2 : Addr) : entryFrame m #[(.ref x0), (.int (0 : Int32)), (.ref x2), (.int (0 : Int32)), (.int (1 : Int32))] 7 = mkF m 0 #[.val (.ref x0), .val (.int (0 : Int32)), .val (.ref x2), .val (.int (0 : Int32)), .val (.int (1 : Int32)), .unset, .unset] [] := by first | (simp [entryFrame, mkF, argsToLocals, Value.category]; done) | rfl
def Q6_1 (Z : State) (a2 : Addr) (k2 : ClassId) (c0 : Int32) (h0 : Heap) (n0 : Nat) (v : Option Value) (h : Heap) (L : List Loc) : Prop := v = some (.int (1 : Int32)) ∧ Fr n0 L ∧ Keep h0 h [a2] ∧ Arv Z h a2 k2 .byte (1 : Int32) [(.int (nar .byte (c0.toInt8.toInt32)))] (.int (0 : Int32))
set_option maxRecDepth 65536 in
set_option maxHeartbeats 40000000 in
theorem rm6_1 (l : Launch) (Z : State) (a0 : Array Value) (hw : ∀ d ∈ tables_1, d.before a0 Z = true) (ws : List Jvm.Cond) (a1 : Addr) (a2 : Addr) (k1 k2 : ClassId) (c0 : Int32) (h0 : Heap) (n0 : Nat) (Z0 : n0 ≤ h0.size) (V1 : Arv Z h0 a1 k1 .char (1 : Int32) [(.int c0)] (.int (0 : Int32))) (V2 : Arv Z h0 a2 k2 .byte (1 : Int32) [(.int (0 : Int32))] (.int (0 : Int32))) (g2 : n0 ≤ a2) (lt12 : a1 < a2) (hc0 : ¬ ((255 : Int32) < c0)) :
    MetFree l (⟨"java/lang/StringUTF16", "compress", "([CI[BII)I"⟩ : MethodName) (head1 (Jvm.Cond.code (⟨"java/lang/StringUTF16", "compress", "([CI[BII)I"⟩ : MethodName) jdk_52_method_21_code 7 (some .int) :: ws) ({ frames := 0, cells := 0, slots := 0, locals := 0 } : Room)) (fun a U => a = #[(.ref a1), (.int (0 : Int32)), (.ref a2), (.int (0 : Int32)), (.int (1 : Int32))] ∧ Z.Warmed39 U.vm ∧ U.heap = h0) (fun _ _ _ _ _ => True) (fun _ U o U' => ∃ v L, o = .returned v ∧ Q6_1 Z a2 k2 c0 h0 n0 v U'.heap L ∧ FrameEnd U o U' L ({ frames := 0, cells := 0, slots := 0, locals := 0 } : Room).cells ({ frames := 0, cells := 0, slots := 0, locals := 0 } : Room).slots) := by
  refine MetFree.of_bodySF (plainFor_of_name pn_6_1) hisR ?_
  intro p e s m args below meth c s₁ Bd hml0 hP hK
  obtain ⟨rfl, hZ, hh⟩ := hP
  have hx := Bd.exec
  have hby := Bd.bytes
  have hml : c.maxLocals = 7 := hml0
  have hown : s.vm.findClass "java/lang/StringUTF16" = some m.cls := findClass_of_methodNamed Bd.named
  have hnm := (name_of_methodNamed Bd.named Bd.method).1
  have X0 : Stand p l e ({ frames := 0, cells := 0, slots := 0, locals := 0 } : Room) s m #[(.ref a1), (.int (0 : Int32)), (.ref a2), (.int (0 : Int32)), (.int (1 : Int32))] below meth c s₁ [] 0 0 := Stand.of_body Bd
  have e0 : s₁.heap = h0 := by rw [← hh, Bd.state]; rfl
  have N0 := Fr.nil n0
  refine Goes.via (next := s₁.setTop (mkF m 0 #[.val (.ref a1), .val (.int (0 : Int32)), .val (.ref a2), .val (.int (0 : Int32)), .val (.int (1 : Int32)), .unset, .unset] [])) (fun t k => castTop (ef_6_1 m a1 a2) k) ?_
  refine Goes.via (fun t k => XS.iconst X0.here hx rfl (hb hby d6_1_0) k) ?_
  show Goes p e below (s₁.setTop (mkF m 1 #[.val (.ref a1), .val (.int (0 : Int32)), .val (.ref a2), .val (.int (0 : Int32)), .val (.int (1 : Int32)), .unset, .unset] [(.int (0 : Int32))])) _
  refine Goes.via (fun t k => XS.istore X0.here hx rfl (hb hby d6_1_1) rfl (l' := #[.val (.ref a1), .val (.int (0 : Int32)), .val (.ref a2), .val (.int (0 : Int32)), .val (.int (1 : Int32)), .val (.int (0 : Int32)), .unset]) rfl k) ?_
  show Goes p e below (s₁.setTop (mkF m 3 #[.val (.ref a1), .val (.int (0 : Int32)), .val (.ref a2), .val (.int (0 : Int32)), .val (.int (1 : Int32)), .val (.int (0 : Int32)), .unset] [])) _
  refine Goes.via (fun t k => XS.iload X0.here hx rfl (hb hby d6_1_3) rfl k) ?_
  show Goes p e below (s₁.setTop (mkF m 5 #[.val (.ref a1), .val (.int (0 : Int32)), .val (.ref a2), .val (.int (0 : Int32)), .val (.int (1 : Int32)), .val (.int (0 : Int32)), .unset] [(.int (0 : Int32))])) _
  refine Goes.via (fun t k => XS.iload X0.here hx rfl (hb hby d6_1_5) rfl k) ?_
  show Goes p e below (s₁.setTop (mkF m 7 #[.val (.ref a1), .val (.int (0 : Int32)), .val (.ref a2), .val (.int (0 : Int32)), .val (.int (1 : Int32)), .val (.int (0 : Int32)), .unset] [(.int (1 : Int32)), (.int (0 : Int32))])) _
  refine Goes.via (fun t k => XS.icmpNo X0.here hx rfl (hb hby d6_1_7) rfl (tlt (show (0 : Int32) < (1 : Int32) from (by decide))).2.1 k) ?_
  show Goes p e below (s₁.setTop (mkF m 10 #[.val (.ref a1), .val (.int (0 : Int32)), .val (.ref a2), .val (.int (0 : Int32)), .val (.int (1 : Int32)), .val (.int (0 : Int32)), .unset] [])) _
  refine Goes.via (fun t k => XS.aloadN X0.here hx rfl (hb hby d6_1_10) rfl rfl k) ?_
  show Goes p e below (s₁.setTop (mkF m 11 #[.val (.ref a1), .val (.int (0 : Int32)), .val (.ref a2), .val (.int (0 : Int32)), .val (.int (1 : Int32)), .val (.int (0 : Int32)), .unset] [(.ref a1)])) _
  refine Goes.via (fun t k => XS.iloadN X0.here hx rfl (hb hby d6_1_11) rfl k) ?_
  show Goes p e below (s₁.setTop (mkF m 12 #[.val (.ref a1), .val (.int (0 : Int32)), .val (.ref a2), .val (.int (0 : Int32)), .val (.int (1 : Int32)), .val (.int (0 : Int32)), .unset] [(.int (0 : Int32)), (.ref a1)])) _
  obtain ⟨cl1, Ar1, qa1, Sa1, Na1, Ha1, Ga1⟩ := id V1
  have hin1 : ¬ ((0 : Int32) < 0 ∨ cl1.slots.size ≤ ((0 : Int32)).toNatClampNeg) := inb_of Sa1 ⟨by decide, by decide⟩
  have hat1 : cl1.slots[((0 : Int32)).toNatClampNeg]? = some (.int c0) := Ha1.at hin1 rfl
  refine Goes.via (fun t k => X0.caload hx (j := (0 : Int32)) (v := (.int c0)) (by rw [e0]; exact Ar1.1) (State.isArrayOf_alike hZ.alike Ar1.2.1) Ar1.2.2 hin1 hat1 (g := (mkF m 12 #[.val (.ref a1), .val (.int (0 : Int32)), .val (.ref a2), .val (.int (0 : Int32)), .val (.int (1 : Int32)), .val (.int (0 : Int32)), .unset] [(.int (0 : Int32)), (.ref a1)])) rfl rfl (hb hby d6_1_12) _ k) ?_
  show Goes p e below (s₁.setTop (mkF m 13 #[.val (.ref a1), .val (.int (0 : Int32)), .val (.ref a2), .val (.int (0 : Int32)), .val (.int (1 : Int32)), .val (.int (0 : Int32)), .unset] [(.int c0)])) _
  refine Goes.via (fun t k => XS.istore X0.here hx rfl (hb hby d6_1_13) rfl (l' := #[.val (.ref a1), .val (.int (0 : Int32)), .val (.ref a2), .val (.int (0 : Int32)), .val (.int (1 : Int32)), .val (.int (0 : Int32)), .val (.int c0)]) rfl k) ?_
  show Goes p e below (s₁.setTop (mkF m 15 #[.val (.ref a1), .val (.int (0 : Int32)), .val (.ref a2), .val (.int (0 : Int32)), .val (.int (1 : Int32)), .val (.int (0 : Int32)), .val (.int c0)] [])) _
  refine Goes.via (fun t k => XS.iload X0.here hx rfl (hb hby d6_1_15) rfl k) ?_
  show Goes p e below (s₁.setTop (mkF m 17 #[.val (.ref a1), .val (.int (0 : Int32)), .val (.ref a2), .val (.int (0 : Int32)), .val (.int (1 : Int32)), .val (.int (0 : Int32)), .val (.int c0)] [(.int c0)])) _
  refine Goes.via (fun t k => XS.sipush X0.here hx rfl (hb hby d6_1_17) k) ?_
  show Goes p e below (s₁.setTop (mkF m 20 #[.val (.ref a1), .val (.int (0 : Int32)), .val (.ref a2), .val (.int (0 : Int32)), .val (.int (1 : Int32)), .val (.int (0 : Int32)), .val (.int c0)] [(.int (255 : Int32)), (.int c0)])) _
  refine Goes.via (fun t k => XS.icmpYes X0.here hx rfl (pc0 := 20) (pc' := 26) rfl (hb hby d6_1_20) rfl (flt hc0).2.2.2 (by decide) (by decide) k) ?_
  show Goes p e below (s₁.setTop (mkF m 26 #[.val (.ref a1), .val (.int (0 : Int32)), .val (.ref a2), .val (.int (0 : Int32)), .val (.int (1 : Int32)), .val (.int (0 : Int32)), .val (.int c0)] [])) _
  refine Goes.via (fun t k => XS.aloadN X0.here hx rfl (hb hby d6_1_26) rfl rfl k) ?_
  show Goes p e below (s₁.setTop (mkF m 27 #[.val (.ref a1), .val (.int (0 : Int32)), .val (.ref a2), .val (.int (0 : Int32)), .val (.int (1 : Int32)), .val (.int (0 : Int32)), .val (.int c0)] [(.ref a2)])) _
  refine Goes.via (fun t k => XS.iloadN X0.here hx rfl (hb hby d6_1_27) rfl k) ?_
  show Goes p e below (s₁.setTop (mkF m 28 #[.val (.ref a1), .val (.int (0 : Int32)), .val (.ref a2), .val (.int (0 : Int32)), .val (.int (1 : Int32)), .val (.int (0 : Int32)), .val (.int c0)] [(.int (0 : Int32)), (.ref a2)])) _
  refine Goes.via (fun t k => XS.iload X0.here hx rfl (hb hby d6_1_28) rfl k) ?_
  show Goes p e below (s₁.setTop (mkF m 30 #[.val (.ref a1), .val (.int (0 : Int32)), .val (.ref a2), .val (.int (0 : Int32)), .val (.int (1 : Int32)), .val (.int (0 : Int32)), .val (.int c0)] [(.int c0), (.int (0 : Int32)), (.ref a2)])) _
  refine Goes.via (fun t k => XS.i2b X0.here hx rfl (hb hby d6_1_30) rfl k) ?_
  show Goes p e below (s₁.setTop (mkF m 31 #[.val (.ref a1), .val (.int (0 : Int32)), .val (.ref a2), .val (.int (0 : Int32)), .val (.int (1 : Int32)), .val (.int (0 : Int32)), .val (.int c0)] [(.int (c0.toInt8.toInt32)), (.int (0 : Int32)), (.ref a2)])) _
  obtain ⟨cl2, Ar2, qa2, Sa2, Na2, Ha2, Ga2⟩ := V2
  have hin2 : ¬ ((0 : Int32) < 0 ∨ cl2.slots.size ≤ ((0 : Int32)).toNatClampNeg) := inb_of Sa2 ⟨by decide, by decide⟩
  obtain ⟨T2, h2, X2, e2, W2, st2⟩ := stB X0 hx hZ e0 Ar2 (j := (0 : Int32)) hin2 (g := (mkF m 31 #[.val (.ref a1), .val (.int (0 : Int32)), .val (.ref a2), .val (.int (0 : Int32)), .val (.int (1 : Int32)), .val (.int (0 : Int32)), .val (.int c0)] [(.int (c0.toInt8.toInt32)), (.int (0 : Int32)), (.ref a2)])) rfl rfl (hb hby d6_1_31)
  have V2 : Arv Z h2 a2 k2 .byte (1 : Int32) [(.int (nar .byte (c0.toInt8.toInt32)))] (.int (0 : Int32)) := Arv.set Ar2 qa2 Sa2 Na2 Ha2 Ga2 (fits_nar_byte _) W2 0 rfl (Nat.le_of_ble_eq_true rfl)
  have F2_39 := V1.other W2 (Nat.ne_of_lt lt12)
  have K2 : Keep h0 h2 [a2] := (Keep.refl h0 [a2]).wr W2 (Or.inl (List.mem_of_getElem? (i := 0) rfl))
  have Z2 : n0 ≤ h2.size := Nat.le_trans Z0 (Keep.of_wr W2).1
  have N2 := Fr.snoc X2 N0 g2
  refine Goes.via st2 ?_
  show Goes p e below (T2.setTop (mkF m 32 #[.val (.ref a1), .val (.int (0 : Int32)), .val (.ref a2), .val (.int (0 : Int32)), .val (.int (1 : Int32)), .val (.int (0 : Int32)), .val (.int c0)] [])) _
  refine Goes.via (fun t k => XS.iinc X2.here hx rfl (hb hby d6_1_32) rfl (l' := #[.val (.ref a1), .val (.int (1 : Int32)), .val (.ref a2), .val (.int (0 : Int32)), .val (.int (1 : Int32)), .val (.int (0 : Int32)), .val (.int c0)]) rfl k) ?_
  show Goes p e below (T2.setTop (mkF m 35 #[.val (.ref a1), .val (.int (1 : Int32)), .val (.ref a2), .val (.int (0 : Int32)), .val (.int (1 : Int32)), .val (.int (0 : Int32)), .val (.int c0)] [])) _
  refine Goes.via (fun t k => XS.iinc X2.here hx rfl (hb hby d6_1_35) rfl (l' := #[.val (.ref a1), .val (.int (1 : Int32)), .val (.ref a2), .val (.int (1 : Int32)), .val (.int (1 : Int32)), .val (.int (0 : Int32)), .val (.int c0)]) rfl k) ?_
  show Goes p e below (T2.setTop (mkF m 38 #[.val (.ref a1), .val (.int (1 : Int32)), .val (.ref a2), .val (.int (1 : Int32)), .val (.int (1 : Int32)), .val (.int (0 : Int32)), .val (.int c0)] [])) _
  refine Goes.via (fun t k => XS.iinc X2.here hx rfl (hb hby d6_1_38) rfl (l' := #[.val (.ref a1), .val (.int (1 : Int32)), .val (.ref a2), .val (.int (1 : Int32)), .val (.int (1 : Int32)), .val (.int (1 : Int32)), .val (.int c0)]) rfl k) ?_
  show Goes p e below (T2.setTop (mkF m 41 #[.val (.ref a1), .val (.int (1 : Int32)), .val (.ref a2), .val (.int (1 : Int32)), .val (.int (1 : Int32)), .val (.int (1 : Int32)), .val (.int c0)] [])) _
  refine Goes.via (fun t k => XS.goto X2.here hx rfl (pc0 := 41) (pc' := 3) rfl (hb hby d6_1_41) (by decide) (by decide) k) ?_
  show Goes p e below (T2.setTop (mkF m 3 #[.val (.ref a1), .val (.int (1 : Int32)), .val (.ref a2), .val (.int (1 : Int32)), .val (.int (1 : Int32)), .val (.int (1 : Int32)), .val (.int c0)] [])) _
  refine Goes.via (fun t k => XS.iload X2.here hx rfl (hb hby d6_1_3) rfl k) ?_
  show Goes p e below (T2.setTop (mkF m 5 #[.val (.ref a1), .val (.int (1 : Int32)), .val (.ref a2), .val (.int (1 : Int32)), .val (.int (1 : Int32)), .val (.int (1 : Int32)), .val (.int c0)] [(.int (1 : Int32))])) _
  refine Goes.via (fun t k => XS.iload X2.here hx rfl (hb hby d6_1_5) rfl k) ?_
  show Goes p e below (T2.setTop (mkF m 7 #[.val (.ref a1), .val (.int (1 : Int32)), .val (.ref a2), .val (.int (1 : Int32)), .val (.int (1 : Int32)), .val (.int (1 : Int32)), .val (.int c0)] [(.int (1 : Int32)), (.int (1 : Int32))])) _
  refine Goes.via (fun t k => XS.icmpYes X2.here hx rfl (pc0 := 7) (pc' := 44) rfl (hb hby d6_1_7) rfl (flt (show ¬ ((1 : Int32) < (1 : Int32)) from (by decide))).2.1 (by decide) (by decide) k) ?_
  show Goes p e below (T2.setTop (mkF m 44 #[.val (.ref a1), .val (.int (1 : Int32)), .val (.ref a2), .val (.int (1 : Int32)), .val (.int (1 : Int32)), .val (.int (1 : Int32)), .val (.int c0)] [])) _
  refine Goes.via (fun t k => XS.iload X2.here hx rfl (hb hby d6_1_44) rfl k) ?_
  show Goes p e below (T2.setTop (mkF m 46 #[.val (.ref a1), .val (.int (1 : Int32)), .val (.ref a2), .val (.int (1 : Int32)), .val (.int (1 : Int32)), .val (.int (1 : Int32)), .val (.int c0)] [(.int (1 : Int32))])) _
  obtain ⟨fs, hr, hrun, hended, hW, hsame⟩ := X2.leave (v := some (.int (1 : Int32))) (fun h => by rw [Bd.returns] at h; cases h)
  refine ⟨_, _, ?_, hrun, hended, _, _, rfl, ?_, ⟨_, rfl⟩, hW, hsame.mono (by decide) (by decide)⟩
  · exact retI X2 hx Bd.returns (hb hby d6_1_46) hr
  · show Q6_1 Z a2 k2 c0 h0 n0 _ T2.heap _
    rw [e2]
    exact ⟨rfl, N2, K2, V2⟩
theorem d5_1_0 : decode jdk_52_method_16_code 0 = .ok (.iload_n 2, 1) := by decide +kernel
theorem d5_1_1 : decode jdk_52_method_16_code 1 = .ok (.newarray .byte, 2) := by decide +kernel
theorem d5_1_3 : decode jdk_52_method_16_code 3 = .ok (.astore_n 3, 1) := by decide +kernel
theorem d5_1_4 : decode jdk_52_method_16_code 4 = .ok (.aload_n 0, 1) := by decide +kernel
theorem d5_1_5 : decode jdk_52_method_16_code 5 = .ok (.iload_n 1, 1) := by decide +kernel
theorem d5_1_6 : decode jdk_52_method_16_code 6 = .ok (.aload_n 3, 1) := by decide +kernel
theorem d5_1_7 : decode jdk_52_method_16_code 7 = .ok (.iconst 0, 1) := by decide +kernel
theorem d5_1_8 : decode jdk_52_method_16_code 8 = .ok (.iload_n 2, 1) := by decide +kernel
theorem d5_1_9 : decode jdk_52_method_16_code 9 = .ok (.invokestatic 115, 3) := by decide +kernel
theorem d5_1_12 : decode jdk_52_method_16_code 12 = .ok (.istore 4, 2) := by decide +kernel
theorem d5_1_14 : decode jdk_52_method_16_code 14 = .ok (.iload 4, 2) := by decide +kernel
theorem d5_1_16 : decode jdk_52_method_16_code 16 = .ok (.iload_n 2, 1) := by decide +kernel
theorem d5_1_17 : decode jdk_52_method_16_code 17 = .ok (.if_icmp .eq 40, 3) := by decide +kernel
theorem d5_1_57 : decode jdk_52_method_16_code 57 = .ok (.aload_n 3, 1) := by decide +kernel
theorem d5_1_58 : decode jdk_52_method_16_code 58 = .ok (.areturn, 1) := by decide +kernel
theorem pn_5_1 : plainName "java/lang/StringUTF16" = true := by first | (simp [plainName, overriddenIn]; done) | decide +kernel
theorem pd_5_1_0 : parseMethodDescriptor "([CI[BII)I" = some ⟨[(.array .char), .int, (.array .byte), .int, .int], some .int⟩ := by decide +kernel
theorem ef_5_1 (m : MethodId) (x0 : Addr) : entryFrame m #[(.ref x0), (.int (0 : Int32)), (.int (1 : Int32))] 6 = mkF m 0 #[.val (.ref x0), .val (.int (0 : Int32)), .val (.int (1 : Int32)), .unset, .unset, .unset] [] := by first | (simp [entryFrame, mkF, argsToLocals, Value.category]; done) | rfl
def Q5_1 (Z : State) (c0 : Int32) (h0 : Heap) (n0 : Nat) (v : Option Value) (h : Heap) (L : List Loc) : Prop := ∃ (t : Addr) (k : ClassId), v = some (.ref t) ∧ Fr n0 L ∧ n0 ≤ t ∧ h0.size ≤ t ∧ Keep h0 h [] ∧ Arv Z h t k .byte (1 : Int32) [(.int (nar .byte (c0.toInt8.toInt32)))] (.int (0 : Int32))
set_option maxRecDepth 65536 in
set_option maxHeartbeats 40000000 in
theorem rm5_1 (l : Launch) (Z : State) (a0 : Array Value) (hw : ∀ d ∈ tables_1, d.before a0 Z = true) (ws : List Jvm.Cond) (a1 : Addr) (k1 : ClassId) (c0 : Int32) (h0 : Heap) (n0 : Nat) (Z0 : n0 ≤ h0.size) (V1 : Arv Z h0 a1 k1 .char (1 : Int32) [(.int c0)] (.int (0 : Int32))) (hc0 : ¬ ((255 : Int32) < c0)) :
    MetFree l (⟨"java/lang/StringUTF16", "compress", "([CII)[B"⟩ : MethodName) (head1 (Jvm.Cond.code (⟨"java/lang/StringUTF16", "compress", "([CII)[B"⟩ : MethodName) jdk_52_method_16_code 6 (some (.array .byte)) :: ws) ({ frames := 1, cells := 1, slots := 1, locals := 18 } : Room)) (fun a U => a = #[(.ref a1), (.int (0 : Int32)), (.int (1 : Int32))] ∧ Z.Warmed39 U.vm ∧ U.heap = h0) (fun _ _ _ _ _ => True) (fun _ U o U' => ∃ v L, o = .returned v ∧ Q5_1 Z c0 h0 n0 v U'.heap L ∧ FrameEnd U o U' L ({ frames := 1, cells := 1, slots := 1, locals := 18 } : Room).cells ({ frames := 1, cells := 1, slots := 1, locals := 18 } : Room).slots) := by
  refine MetFree.of_bodySF (plainFor_of_name pn_5_1) hisR ?_
  intro p e s m args below meth c s₁ Bd hml0 hP hK
  obtain ⟨rfl, hZ, hh⟩ := hP
  have hx := Bd.exec
  have hby := Bd.bytes
  have hml : c.maxLocals = 6 := hml0
  have hown : s.vm.findClass "java/lang/StringUTF16" = some m.cls := findClass_of_methodNamed Bd.named
  have hnm := (name_of_methodNamed Bd.named Bd.method).1
  have X0 : Stand p l e ({ frames := 1, cells := 1, slots := 1, locals := 18 } : Room) s m #[(.ref a1), (.int (0 : Int32)), (.int (1 : Int32))] below meth c s₁ [] 0 0 := Stand.of_body Bd
  have e0 : s₁.heap = h0 := by rw [← hh, Bd.state]; rfl
  have N0 := Fr.nil n0
  refine Goes.via (next := s₁.setTop (mkF m 0 #[.val (.ref a1), .val (.int (0 : Int32)), .val (.int (1 : Int32)), .unset, .unset, .unset] [])) (fun t k => castTop (ef_5_1 m a1) k) ?_
  refine Goes.via (fun t k => XS.iloadN X0.here hx rfl (hb hby d5_1_0) rfl k) ?_
  show Goes p e below (s₁.setTop (mkF m 1 #[.val (.ref a1), .val (.int (0 : Int32)), .val (.int (1 : Int32)), .unset, .unset, .unset] [(.int (1 : Int32))])) _
  obtain ⟨T1, h1, ka1, X1, e1, E1, A1, st1⟩ := newP X0 hx hZ (hw _ (List.mem_of_getElem? (i := 24) rfl)) e0 (g := (mkF m 1 #[.val (.ref a1), .val (.int (0 : Int32)), .val (.int (1 : Int32)), .unset, .unset, .unset] [(.int (1 : Int32))])) rfl (hb hby d5_1_1) rfl (by decide) (cap := 1) (by decide) (by decide) (by decide) (by decide)
  obtain ⟨b1, g1⟩ : ∃ z, z = h0.size := ⟨_, rfl⟩
  rw [← g1] at A1 st1
  have lt_a1_b1 : a1 < b1 := Nat.lt_of_lt_of_le V1.lt (Nat.le_of_eq g1.symm)
  have ge_b1 : n0 ≤ b1 := Nat.le_trans Z0 (Nat.le_of_eq g1.symm)
  have sz_b1 : h0.size ≤ b1 := Nat.le_trans (Keep.refl h0 []).1 (Nat.le_of_eq g1.symm)
  have F1_8 := V1.ext E1
  have K1 : Keep h0 h1 [] := (Keep.refl h0 []).ext E1
  have Z1 : n0 ≤ h1.size := Nat.le_trans Z0 E1.1
  have V1 : Arv Z h1 b1 ka1 .byte (1 : Int32) [(.int (0 : Int32))] (.int (0 : Int32)) := (Arv.new A1 (by decide)).pad (pad_rep [] (.int (0 : Int32)) 1)
  refine Goes.via st1 ?_
  show Goes p e below (T1.setTop (mkF m 3 #[.val (.ref a1), .val (.int (0 : Int32)), .val (.int (1 : Int32)), .unset, .unset, .unset] [(.ref b1)])) _
  refine Goes.via (fun t k => XS.astoreN X1.here hx rfl (hb hby d5_1_3) rfl rfl (l' := #[.val (.ref a1), .val (.int (0 : Int32)), .val (.int (1 : Int32)), .val (.ref b1), .unset, .unset]) rfl k) ?_
  show Goes p e below (T1.setTop (mkF m 4 #[.val (.ref a1), .val (.int (0 : Int32)), .val (.int (1 : Int32)), .val (.ref b1), .unset, .unset] [])) _
  refine Goes.via (fun t k => XS.aloadN X1.here hx rfl (hb hby d5_1_4) rfl rfl k) ?_
  show Goes p e below (T1.setTop (mkF m 5 #[.val (.ref a1), .val (.int (0 : Int32)), .val (.int (1 : Int32)), .val (.ref b1), .unset, .unset] [(.ref a1)])) _
  refine Goes.via (fun t k => XS.iloadN X1.here hx rfl (hb hby d5_1_5) rfl k) ?_
  show Goes p e below (T1.setTop (mkF m 6 #[.val (.ref a1), .val (.int (0 : Int32)), .val (.int (1 : Int32)), .val (.ref b1), .unset, .unset] [(.int (0 : Int32)), (.ref a1)])) _
  refine Goes.via (fun t k => XS.aloadN X1.here hx rfl (hb hby d5_1_6) rfl rfl k) ?_
  show Goes p e below (T1.setTop (mkF m 7 #[.val (.ref a1), .val (.int (0 : Int32)), .val (.int (1 : Int32)), .val (.ref b1), .unset, .unset] [(.ref b1), (.int (0 : Int32)), (.ref a1)])) _
  refine Goes.via (fun t k => XS.iconst X1.here hx rfl (hb hby d5_1_7) k) ?_
  show Goes p e below (T1.setTop (mkF m 8 #[.val (.ref a1), .val (.int (0 : Int32)), .val (.int (1 : Int32)), .val (.ref b1), .unset, .unset] [(.int (0 : Int32)), (.ref b1), (.int (0 : Int32)), (.ref a1)])) _
  refine Goes.via (fun t k => XS.iloadN X1.here hx rfl (hb hby d5_1_8) rfl k) ?_
  show Goes p e below (T1.setTop (mkF m 9 #[.val (.ref a1), .val (.int (0 : Int32)), .val (.int (1 : Int32)), .val (.ref b1), .unset, .unset] [(.int (1 : Int32)), (.int (0 : Int32)), (.ref b1), (.int (0 : Int32)), (.ref a1)])) _
  obtain ⟨_, _, ⟨T2, L2, k2, n2⟩, -, X2, ⟨Lc2, hQ2, l2, y2, z2⟩, st2⟩ := Jvm.LawKit.callS X1 hx (y := (⟨"java/lang/StringUTF16", "compress", "([CI[BII)I"⟩ : MethodName)) hown (mvT hZ (hw _ (List.mem_of_getElem? (i := 25) rfl))) (mvT hZ (hw _ (List.mem_of_getElem? (i := 26) rfl))) (mvT hZ (hw _ (List.mem_of_getElem? (i := 22) rfl))) (mvT hZ (hw _ (List.mem_of_getElem? (i := 27) rfl))) (by decide) (backOf (W := 0) (rm6_1 l Z a0 hw [] a1 b1 k1 ka1 c0 h1 n0 Z1 F1_8 V1 ge_b1 lt_a1_b1 hc0) hZ (hw _ (List.mem_of_getElem? (i := 27) rfl)) (hw _ (List.mem_of_getElem? (i := 22) rfl)) (by decide) (by decide)) (g := (mkF m 9 #[.val (.ref a1), .val (.int (0 : Int32)), .val (.int (1 : Int32)), .val (.ref b1), .unset, .unset] [(.int (1 : Int32)), (.int (0 : Int32)), (.ref b1), (.int (0 : Int32)), (.ref a1)])) rfl (by rw [hml]; rfl) (argsL := [(.ref a1), (.int (0 : Int32)), (.ref b1), (.int (0 : Int32)), (.int (1 : Int32))]) (rest := []) (lenOf pd_5_1_0 rfl) rfl (by show 2 * 0 + _ ≤ _; exact Nat.le_of_eq rfl) (hb hby d5_1_9) (fun _ _ => ⟨rfl, e1, (by decide : 1 + 0 ≤ _), (by decide : 1 + 0 ≤ _)⟩)
  dsimp only [Pt.U, Pt.locs, Pt.cells, Pt.slots] at X2 l2 y2 z2 st2 hQ2
  subst l2 y2 z2
  obtain ⟨rfl, N2q, Kc2, Vc2⟩ := hQ2
  have F2_30 := F1_8.keep Kc2 (fun q => (Nat.ne_of_lt lt_a1_b1) (List.mem_singleton.mp q))
  have K2 : Keep h0 T2.heap [] := K1.trans Kc2 (fun x hx => by cases List.mem_singleton.mp hx; exact Or.inr sz_b1)
  have Z2 : n0 ≤ T2.heap.size := Nat.le_trans Z1 Kc2.1
  have N2 := Fr.app N0 N2q
  refine Goes.via st2 ?_
  show Goes p e below (T2.setTop (mkF m 12 #[.val (.ref a1), .val (.int (0 : Int32)), .val (.int (1 : Int32)), .val (.ref b1), .unset, .unset] [(.int (1 : Int32))])) _
  refine Goes.via (fun t k => XS.istore X2.here hx rfl (hb hby d5_1_12) rfl (l' := #[.val (.ref a1), .val (.int (0 : Int32)), .val (.int (1 : Int32)), .val (.ref b1), .val (.int (1 : Int32)), .unset]) rfl k) ?_
  show Goes p e below (T2.setTop (mkF m 14 #[.val (.ref a1), .val (.int (0 : Int32)), .val (.int (1 : Int32)), .val (.ref b1), .val (.int (1 : Int32)), .unset] [])) _
  refine Goes.via (fun t k => XS.iload X2.here hx rfl (hb hby d5_1_14) rfl k) ?_
  show Goes p e below (T2.setTop (mkF m 16 #[.val (.ref a1), .val (.int (0 : Int32)), .val (.int (1 : Int32)), .val (.ref b1), .val (.int (1 : Int32)), .unset] [(.int (1 : Int32))])) _
  refine Goes.via (fun t k => XS.iloadN X2.here hx rfl (hb hby d5_1_16) rfl k) ?_
  show Goes p e below (T2.setTop (mkF m 17 #[.val (.ref a1), .val (.int (0 : Int32)), .val (.int (1 : Int32)), .val (.ref b1), .val (.int (1 : Int32)), .unset] [(.int (1 : Int32)), (.int (1 : Int32))])) _
  refine Goes.via (fun t k => XS.icmpYes X2.here hx rfl (pc0 := 17) (pc' := 57) rfl (hb hby d5_1_17) rfl (teq (show (1 : Int32) = (1 : Int32) from rfl)).1 (by decide) (by decide) k) ?_
  show Goes p e below (T2.setTop (mkF m 57 #[.val (.ref a1), .val (.int (0 : Int32)), .val (.int (1 : Int32)), .val (.ref b1), .val (.int (1 : Int32)), .unset] [])) _
  refine Goes.via (fun t k => XS.aloadN X2.here hx rfl (hb hby d5_1_57) rfl rfl k) ?_
  show Goes p e below (T2.setTop (mkF m 58 #[.val (.ref a1), .val (.int (0 : Int32)), .val (.int (1 : Int32)), .val (.ref b1), .val (.int (1 : Int32)), .unset] [(.ref b1)])) _
  obtain ⟨fs, hr, hrun, hended, hW, hsame⟩ := X2.leave (v := some (.ref b1)) (fun h => by rw [Bd.returns] at h; cases h)
  refine ⟨_, _, ?_, hrun, hended, _, _, rfl, ?_, ⟨_, rfl⟩, hW, hsame.mono (by decide) (by decide)⟩
  · exact retOut X2 hx (t := (.array .byte)) Bd.returns rfl (Or.inr (Or.inr (Or.inr (Or.inr ⟨rfl, rfl, rfl⟩)))) (hb hby d5_1_58) hr
  · exact ⟨b1, _, rfl, N2, ge_b1, sz_b1, K2, Vc2⟩
theorem d7_1_0 : decode jdk_52_method_15_code 0 = .ok (.iload_n 1, 1) := by decide +kernel
theorem d7_1_1 : decode jdk_52_method_15_code 1 = .ok (.aload_n 0, 1) := by decide +kernel
theorem d7_1_2 : decode jdk_52_method_15_code 2 = .ok (.arraylength, 1) := by decide +kernel
theorem d7_1_3 : decode jdk_52_method_15_code 3 = .ok (.isub, 1) := by decide +kernel
theorem d7_1_4 : decode jdk_52_method_15_code 4 = .ok (.bipush 31, 2) := by decide +kernel
theorem d7_1_6 : decode jdk_52_method_15_code 6 = .ok (.iushr, 1) := by decide +kernel
theorem d7_1_7 : decode jdk_52_method_15_code 7 = .ok (.i2b, 1) := by decide +kernel
theorem d7_1_8 : decode jdk_52_method_15_code 8 = .ok (.ireturn, 1) := by decide +kernel
theorem pn_7_1 : plainName "java/lang/StringUTF16" = true := by first | (simp [plainName, overriddenIn]; done) | decide +kernel
theorem ef_7_1 (m : MethodId) (x0 : Addr) : entryFrame m #[(.ref x0), (.int (1 : Int32))] 2 = mkF m 0 #[.val (.ref x0), .val (.int (1 : Int32))] [] := by first | (simp [entryFrame, mkF, argsToLocals, Value.category]; done) | rfl
def Q7_1 (Z : State) (h0 : Heap) (n0 : Nat) (v : Option Value) (h : Heap) (L : List Loc) : Prop := v = some (.int (0 : Int32)) ∧ Fr n0 L ∧ h = h0
set_option maxRecDepth 65536 in
set_option maxHeartbeats 40000000 in
theorem rm7_1 (l : Launch) (Z : State) (a0 : Array Value) (hw : ∀ d ∈ tables_1, d.before a0 Z = true) (ws : List Jvm.Cond) (a1 : Addr) (k1 : ClassId) (vs : List Value) (h0 : Heap) (n0 : Nat) (Z0 : n0 ≤ h0.size) (V1 : Arv Z h0 a1 k1 .byte (1 : Int32) vs (.int (0 : Int32))) :
    MetFree l (⟨"java/lang/StringUTF16", "coderFromArrayLen", "([BI)B"⟩ : MethodName) (head1 (Jvm.Cond.code (⟨"java/lang/StringUTF16", "coderFromArrayLen", "([BI)B"⟩ : MethodName) jdk_52_method_15_code 2 (some .byte) :: ws) ({ frames := 0, cells := 0, slots := 0, locals := 0 } : Room)) (fun a U => a = #[(.ref a1), (.int (1 : Int32))] ∧ Z.Warmed39 U.vm ∧ U.heap = h0) (fun _ _ _ _ _ => True) (fun _ U o U' => ∃ v L, o = .returned v ∧ Q7_1 Z  h0 n0 v U'.heap L ∧ FrameEnd U o U' L ({ frames := 0, cells := 0, slots := 0, locals := 0 } : Room).cells ({ frames := 0, cells := 0, slots := 0, locals := 0 } : Room).slots) := by
  refine MetFree.of_bodySF (plainFor_of_name pn_7_1) hisR ?_
  intro p e s m args below meth c s₁ Bd hml0 hP hK
  obtain ⟨rfl, hZ, hh⟩ := hP
  have hx := Bd.exec
  have hby := Bd.bytes
  have hml : c.maxLocals = 2 := hml0
  have hown : s.vm.findClass "java/lang/StringUTF16" = some m.cls := findClass_of_methodNamed Bd.named
  have hnm := (name_of_methodNamed Bd.named Bd.method).1
  have X0 : Stand p l e ({ frames := 0, cells := 0, slots := 0, locals := 0 } : Room) s m #[(.ref a1), (.int (1 : Int32))] below meth c s₁ [] 0 0 := Stand.of_body Bd
  have e0 : s₁.heap = h0 := by rw [← hh, Bd.state]; rfl
  have N0 := Fr.nil n0
  refine Goes.via (next := s₁.setTop (mkF m 0 #[.val (.ref a1), .val (.int (1 : Int32))] [])) (fun t k => castTop (ef_7_1 m a1) k) ?_
  refine Goes.via (fun t k => XS.iloadN X0.here hx rfl (hb hby d7_1_0) rfl k) ?_
  show Goes p e below (s₁.setTop (mkF m 1 #[.val (.ref a1), .val (.int (1 : Int32))] [(.int (1 : Int32))])) _
  refine Goes.via (fun t k => XS.aloadN X0.here hx rfl (hb hby d7_1_1) rfl rfl k) ?_
  show Goes p e below (s₁.setTop (mkF m 2 #[.val (.ref a1), .val (.int (1 : Int32))] [(.ref a1), (.int (1 : Int32))])) _
  obtain ⟨cl1, Ar1, -, Sa1, Na1, -, -⟩ := id V1
  refine Goes.via (next := s₁.setTop (mkF m 3 #[.val (.ref a1), .val (.int (1 : Int32))] [(.int (1 : Int32)), (.int (1 : Int32))])) (fun t k => X0.arraylength hx (by rw [e0]; exact Ar1.1) (State.isArrayOf_alike hZ.alike Ar1.2.1) (g := (mkF m 2 #[.val (.ref a1), .val (.int (1 : Int32))] [(.ref a1), (.int (1 : Int32))])) rfl rfl (hb hby d7_1_2) _ (by rw [len_of Sa1 Na1]; exact k)) ?_
  show Goes p e below (s₁.setTop (mkF m 3 #[.val (.ref a1), .val (.int (1 : Int32))] [(.int (1 : Int32)), (.int (1 : Int32))])) _
  refine Goes.via (fun t k => XS.isub X0.here hx rfl (hb hby d7_1_3) rfl k) ?_
  show Goes p e below (s₁.setTop (mkF m 4 #[.val (.ref a1), .val (.int (1 : Int32))] [(.int (0 : Int32))])) _
  refine Goes.via (fun t k => XS.bipush X0.here hx rfl (hb hby d7_1_4) k) ?_
  show Goes p e below (s₁.setTop (mkF m 6 #[.val (.ref a1), .val (.int (1 : Int32))] [(.int (31 : Int32)), (.int (0 : Int32))])) _
  refine Goes.via (fun t k => XS.iushr X0.here hx rfl (hb hby d7_1_6) rfl k) ?_
  show Goes p e below (s₁.setTop (mkF m 7 #[.val (.ref a1), .val (.int (1 : Int32))] [(.int (0 : Int32))])) _
  refine Goes.via (fun t k => XS.i2b X0.here hx rfl (hb hby d7_1_7) rfl k) ?_
  show Goes p e below (s₁.setTop (mkF m 8 #[.val (.ref a1), .val (.int (1 : Int32))] [(.int (0 : Int32))])) _
  obtain ⟨fs, hr, hrun, hended, hW, hsame⟩ := X0.leave (v := some (.int (0 : Int32))) (fun h => by rw [Bd.returns] at h; cases h)
  refine ⟨_, _, ?_, hrun, hended, _, _, rfl, ?_, ⟨_, rfl⟩, hW, hsame.mono (by decide) (by decide)⟩
  · exact retN X0 hx (t := .byte) Bd.returns (by simp) (hb hby d7_1_8) hr
  · show Q7_1 Z  h0 n0 _ s₁.heap _
    rw [e0]
    exact ⟨rfl, N0, rfl⟩
theorem d3_1_0 : decode jdk_42_method_149_code 0 = .ok (.aload_n 0, 1) := by decide +kernel
theorem d3_1_1 : decode jdk_42_method_149_code 1 = .ok (.invokespecial 1, 3) := by decide +kernel
theorem d3_1_4 : decode jdk_42_method_149_code 4 = .ok (.iload_n 3, 1) := by decide +kernel
theorem d3_1_5 : decode jdk_42_method_149_code 5 = .ok (.ifCond .ne 22, 3) := by decide +kernel
theorem d3_1_27 : decode jdk_42_method_149_code 27 = .ok (.getstatic 38, 3) := by decide +kernel
theorem d3_1_30 : decode jdk_42_method_149_code 30 = .ok (.ifCond .eq 28, 3) := by decide +kernel
theorem d3_1_33 : decode jdk_42_method_149_code 33 = .ok (.aload_n 1, 1) := by decide +kernel
theorem d3_1_34 : decode jdk_42_method_149_code 34 = .ok (.iload_n 2, 1) := by decide +kernel
theorem d3_1_35 : decode jdk_42_method_149_code 35 = .ok (.iload_n 3, 1) := by decide +kernel
theorem d3_1_36 : decode jdk_42_method_149_code 36 = .ok (.invokestatic 177, 3) := by decide +kernel
theorem d3_1_39 : decode jdk_42_method_149_code 39 = .ok (.astore 5, 2) := by decide +kernel
theorem d3_1_41 : decode jdk_42_method_149_code 41 = .ok (.aload_n 0, 1) := by decide +kernel
theorem d3_1_42 : decode jdk_42_method_149_code 42 = .ok (.aload 5, 2) := by decide +kernel
theorem d3_1_44 : decode jdk_42_method_149_code 44 = .ok (.iload_n 3, 1) := by decide +kernel
theorem d3_1_45 : decode jdk_42_method_149_code 45 = .ok (.invokestatic 47, 3) := by decide +kernel
theorem d3_1_48 : decode jdk_42_method_149_code 48 = .ok (.putfield 15, 3) := by decide +kernel
theorem d3_1_51 : decode jdk_42_method_149_code 51 = .ok (.aload_n 0, 1) := by decide +kernel
theorem d3_1_52 : decode jdk_42_method_149_code 52 = .ok (.aload 5, 2) := by decide +kernel
theorem d3_1_54 : decode jdk_42_method_149_code 54 = .ok (.putfield 9, 3) := by decide +kernel
theorem d3_1_57 : decode jdk_42_method_149_code 57 = .ok (.return_, 1) := by decide +kernel
theorem pn_3_1 : plainName "java/lang/String" = true := by first | (simp [plainName, overriddenIn]; done) | decide +kernel
theorem pd_3_1_0 : parseMethodDescriptor "([CII)[B" = some ⟨[(.array .char), .int, .int], some (.array .byte)⟩ := by decide +kernel
theorem pd_3_1_1 : parseMethodDescriptor "([BI)B" = some ⟨[(.array .byte), .int], some .byte⟩ := by decide +kernel
theorem ef_3_1 (m : MethodId) (x0 : Addr) (x1 : Addr) : entryFrame m #[(.ref x0), (.ref x1), (.int (0 : Int32)), (.int (1 : Int32)), .null] 6 = mkF m 0 #[.val (.ref x0), .val (.ref x1), .val (.int (0 : Int32)), .val (.int (1 : Int32)), .val .null, .unset] [] := by first | (simp [entryFrame, mkF, argsToLocals, Value.category]; done) | rfl
def Q3_1 (Z : State) (a1 : Addr) (c0 : Int32) (h0 : Heap) (n0 : Nat) (v : Option Value) (h : Heap) (L : List Loc) : Prop := v = none ∧ Fr n0 L ∧ Keep h0 h [a1] ∧ Exa Z h a1 "java/lang/String" ∧ Fld Z h a1 "java/lang/String" "coder" "B" (.int (0 : Int32)) ∧ ∃ (t : Addr) (k : ClassId), n0 ≤ t ∧ h0.size ≤ t ∧ Fld Z h a1 "java/lang/String" "value" "[B" (.ref t) ∧ Arv Z h t k .byte (1 : Int32) [(.int (nar .byte (c0.toInt8.toInt32)))] (.int (0 : Int32))
set_option maxRecDepth 65536 in
set_option maxHeartbeats 40000000 in
theorem rm3_1 (l : Launch) (Z : State) (a0 : Array Value) (hw : ∀ d ∈ tables_1, d.before a0 Z = true) (ws : List Jvm.Cond) (a1 : Addr) (a2 : Addr) (k2 : ClassId) (c0 : Int32) (w0 : Int32) (h0 : Heap) (n0 : Nat) (Z0 : n0 ≤ h0.size) (E1 : Exa Z h0 a1 "java/lang/String") (Fv : Fld Z h0 a1 "java/lang/String" "value" "[B" .null) (Fc : Fld Z h0 a1 "java/lang/String" "coder" "B" (.int (0 : Int32))) (V2 : Arv Z h0 a2 k2 .char (1 : Int32) [(.int c0)] (.int (0 : Int32))) (g1 : n0 ≤ a1) (ne12 : a1 ≠ a2) (O0 : Old Z n0 h0) (St : own_St Z w0) (hc0 : ¬ ((255 : Int32) < c0)) :
    MetFree l (⟨"java/lang/String", "<init>", "([CIILjava/lang/Void;)V"⟩ : MethodName) (head1 (Jvm.Cond.code (⟨"java/lang/String", "<init>", "([CIILjava/lang/Void;)V"⟩ : MethodName) jdk_42_method_149_code 6 none :: ws) ({ frames := 2, cells := 1, slots := 1, locals := 35 } : Room)) (fun a U => a = #[(.ref a1), (.ref a2), (.int (0 : Int32)), (.int (1 : Int32)), .null] ∧ Z.Warmed39 U.vm ∧ U.heap = h0) (fun _ _ _ _ _ => True) (fun _ U o U' => ∃ v L, o = .returned v ∧ Q3_1 Z a1 c0 h0 n0 v U'.heap L ∧ FrameEnd U o U' L ({ frames := 2, cells := 1, slots := 1, locals := 35 } : Room).cells ({ frames := 2, cells := 1, slots := 1, locals := 35 } : Room).slots) := by
  refine MetFree.of_bodySF (plainFor_of_name pn_3_1) hisR ?_
  intro p e s m args below meth c s₁ Bd hml0 hP hK
  obtain ⟨rfl, hZ, hh⟩ := hP
  have hx := Bd.exec
  have hby := Bd.bytes
  have hml : c.maxLocals = 6 := hml0
  have hown : s.vm.findClass "java/lang/String" = some m.cls := findClass_of_methodNamed Bd.named
  have hnm := (name_of_methodNamed Bd.named Bd.method).1
  have X0 : Stand p l e ({ frames := 2, cells := 1, slots := 1, locals := 35 } : Room) s m #[(.ref a1), (.ref a2), (.int (0 : Int32)), (.int (1 : Int32)), .null] below meth c s₁ [] 0 0 := Stand.of_body Bd
  have e0 : s₁.heap = h0 := by rw [← hh, Bd.state]; rfl
  have N0 := Fr.nil n0
  refine Goes.via (next := s₁.setTop (mkF m 0 #[.val (.ref a1), .val (.ref a2), .val (.int (0 : Int32)), .val (.int (1 : Int32)), .val .null, .unset] [])) (fun t k => castTop (ef_3_1 m a1 a2) k) ?_
  refine Goes.via (fun t k => XS.aloadN X0.here hx rfl (hb hby d3_1_0) rfl rfl k) ?_
  show Goes p e below (s₁.setTop (mkF m 1 #[.val (.ref a1), .val (.ref a2), .val (.int (0 : Int32)), .val (.int (1 : Int32)), .val .null, .unset] [(.ref a1)])) _
  obtain ⟨T1, X1, e1, st1⟩ := initO X0 hx hZ hown (hw _ (List.mem_of_getElem? (i := 16) rfl)) (hw _ (List.mem_of_getElem? (i := 17) rfl)) (hw _ (List.mem_of_getElem? (i := 18) rfl)) e0 (g := (mkF m 1 #[.val (.ref a1), .val (.ref a2), .val (.int (0 : Int32)), .val (.int (1 : Int32)), .val .null, .unset] [(.ref a1)])) rfl (by rw [hml]; rfl) rfl (hb hby d3_1_1) (by decide) (W := 0) (by show 2 * 0 + _ ≤ _; exact Nat.le_of_eq rfl) (by decide)
  refine Goes.via st1 ?_
  show Goes p e below (T1.setTop (mkF m 4 #[.val (.ref a1), .val (.ref a2), .val (.int (0 : Int32)), .val (.int (1 : Int32)), .val .null, .unset] [])) _
  refine Goes.via (fun t k => XS.iloadN X1.here hx rfl (hb hby d3_1_4) rfl k) ?_
  show Goes p e below (T1.setTop (mkF m 5 #[.val (.ref a1), .val (.ref a2), .val (.int (0 : Int32)), .val (.int (1 : Int32)), .val .null, .unset] [(.int (1 : Int32))])) _
  refine Goes.via (fun t k => XS.ifYes X1.here hx rfl (pc0 := 5) (pc' := 27) rfl (hb hby d3_1_5) rfl ((if0 _ _).trans (feq (show ¬ ((1 : Int32) = (0 : Int32)) from (by decide))).2) (by decide) (by decide) k) ?_
  show Goes p e below (T1.setTop (mkF m 27 #[.val (.ref a1), .val (.ref a2), .val (.int (0 : Int32)), .val (.int (1 : Int32)), .val .null, .unset] [])) _
  obtain ⟨T2, X2, e2, st2⟩ := getS2 X1 hx hZ hown (host := "") (Or.inl (hw _ (List.mem_of_getElem? (i := 19) rfl))) Via.refl e1 (St.1.ext O0.2) (g := (mkF m 27 #[.val (.ref a1), .val (.ref a2), .val (.int (0 : Int32)), .val (.int (1 : Int32)), .val .null, .unset] [])) rfl (hb hby d3_1_27)
  refine Goes.via st2 ?_
  show Goes p e below (T2.setTop (mkF m 30 #[.val (.ref a1), .val (.ref a2), .val (.int (0 : Int32)), .val (.int (1 : Int32)), .val .null, .unset] [(.int w0)])) _
  have hc30_3 : ¬ (w0 = (0 : Int32)) := St.2.1
  refine Goes.via (fun t k => XS.ifNo X2.here hx rfl (hb hby d3_1_30) rfl ((if0 _ _).trans (feq hc30_3).1) k) ?_
  show Goes p e below (T2.setTop (mkF m 33 #[.val (.ref a1), .val (.ref a2), .val (.int (0 : Int32)), .val (.int (1 : Int32)), .val .null, .unset] [])) _
  refine Goes.via (fun t k => XS.aloadN X2.here hx rfl (hb hby d3_1_33) rfl rfl k) ?_
  show Goes p e below (T2.setTop (mkF m 34 #[.val (.ref a1), .val (.ref a2), .val (.int (0 : Int32)), .val (.int (1 : Int32)), .val .null, .unset] [(.ref a2)])) _
  refine Goes.via (fun t k => XS.iloadN X2.here hx rfl (hb hby d3_1_34) rfl k) ?_
  show Goes p e below (T2.setTop (mkF m 35 #[.val (.ref a1), .val (.ref a2), .val (.int (0 : Int32)), .val (.int (1 : Int32)), .val .null, .unset] [(.int (0 : Int32)), (.ref a2)])) _
  refine Goes.via (fun t k => XS.iloadN X2.here hx rfl (hb hby d3_1_35) rfl k) ?_
  show Goes p e below (T2.setTop (mkF m 36 #[.val (.ref a1), .val (.ref a2), .val (.int (0 : Int32)), .val (.int (1 : Int32)), .val .null, .unset] [(.int (1 : Int32)), (.int (0 : Int32)), (.ref a2)])) _
  obtain ⟨_, _, ⟨T4, L4, k4, n4⟩, -, X4, ⟨Lc4, hQ4, l4, y4, z4⟩, st4⟩ := Jvm.LawKit.callS X2 hx (y := (⟨"java/lang/StringUTF16", "compress", "([CII)[B"⟩ : MethodName)) hown (mvT hZ (hw _ (List.mem_of_getElem? (i := 20) rfl))) (mvT hZ (hw _ (List.mem_of_getElem? (i := 21) rfl))) (mvT hZ (hw _ (List.mem_of_getElem? (i := 22) rfl))) (mvT hZ (hw _ (List.mem_of_getElem? (i := 23) rfl))) (by decide) (backOf (W := 0) (rm5_1 l Z a0 hw [] a2 k2 c0 h0 n0 Z0 V2 hc0) hZ (hw _ (List.mem_of_getElem? (i := 23) rfl)) (hw _ (List.mem_of_getElem? (i := 22) rfl)) (by decide) (by decide)) (g := (mkF m 36 #[.val (.ref a1), .val (.ref a2), .val (.int (0 : Int32)), .val (.int (1 : Int32)), .val .null, .unset] [(.int (1 : Int32)), (.int (0 : Int32)), (.ref a2)])) rfl (by rw [hml]; rfl) (argsL := [(.ref a2), (.int (0 : Int32)), (.int (1 : Int32))]) (rest := []) (lenOf pd_3_1_0 rfl) rfl (by show 2 * 0 + _ ≤ _; exact Nat.le_of_eq rfl) (hb hby d3_1_36) (fun _ _ => ⟨rfl, e2, (by decide : 0 + 1 ≤ _), (by decide : 0 + 1 ≤ _)⟩)
  dsimp only [Pt.U, Pt.locs, Pt.cells, Pt.slots] at X4 l4 y4 z4 st4 hQ4
  subst l4 y4 z4
  obtain ⟨t4, kt4, rfl, N4q, gt4, zt4, Kc4, Vc4⟩ := hQ4
  have lt_a1_t4 : a1 < t4 := Nat.lt_of_lt_of_le E1.lt zt4
  have lt_a2_t4 : a2 < t4 := Nat.lt_of_lt_of_le V2.lt zt4
  have sz_t4 : h0.size ≤ t4 := Nat.le_trans (Keep.refl h0 [a1]).1 zt4
  have F4_28 := E1.keep Kc4
  have F4_29 := Fv.keep Kc4 List.not_mem_nil
  have F4_30 := Fc.keep Kc4 List.not_mem_nil
  have F4_31 := V2.keep Kc4 List.not_mem_nil
  have K4 : Keep h0 T4.heap [a1] := (Keep.refl h0 [a1]).trans Kc4 (fun x hx => nomatch hx)
  have Z4 : n0 ≤ T4.heap.size := Nat.le_trans Z0 Kc4.1
  have O4 := O0.keep Kc4 (fun x hx => nomatch hx)
  have N4 := Fr.app N0 N4q
  refine Goes.via st4 ?_
  show Goes p e below (T4.setTop (mkF m 39 #[.val (.ref a1), .val (.ref a2), .val (.int (0 : Int32)), .val (.int (1 : Int32)), .val .null, .unset] [(.ref t4)])) _
  refine Goes.via (fun t k => XS.astore X4.here hx rfl (hb hby d3_1_39) rfl rfl (l' := #[.val (.ref a1), .val (.ref a2), .val (.int (0 : Int32)), .val (.int (1 : Int32)), .val .null, .val (.ref t4)]) rfl k) ?_
  show Goes p e below (T4.setTop (mkF m 41 #[.val (.ref a1), .val (.ref a2), .val (.int (0 : Int32)), .val (.int (1 : Int32)), .val .null, .val (.ref t4)] [])) _
  refine Goes.via (fun t k => XS.aloadN X4.here hx rfl (hb hby d3_1_41) rfl rfl k) ?_
  show Goes p e below (T4.setTop (mkF m 42 #[.val (.ref a1), .val (.ref a2), .val (.int (0 : Int32)), .val (.int (1 : Int32)), .val .null, .val (.ref t4)] [(.ref a1)])) _
  refine Goes.via (fun t k => XS.aload X4.here hx rfl (hb hby d3_1_42) rfl rfl k) ?_
  show Goes p e below (T4.setTop (mkF m 44 #[.val (.ref a1), .val (.ref a2), .val (.int (0 : Int32)), .val (.int (1 : Int32)), .val .null, .val (.ref t4)] [(.ref t4), (.ref a1)])) _
  refine Goes.via (fun t k => XS.iloadN X4.here hx rfl (hb hby d3_1_44) rfl k) ?_
  show Goes p e below (T4.setTop (mkF m 45 #[.val (.ref a1), .val (.ref a2), .val (.int (0 : Int32)), .val (.int (1 : Int32)), .val .null, .val (.ref t4)] [(.int (1 : Int32)), (.ref t4), (.ref a1)])) _
  obtain ⟨Lw5, X5w, N5w⟩ := ownPack X4 N4
  obtain ⟨_, _, ⟨T6, L6, k6, n6⟩, -, X6, ⟨Lc6, hQ6, l6, y6, z6⟩, st6⟩ := Jvm.LawKit.callS X5w hx (y := (⟨"java/lang/StringUTF16", "coderFromArrayLen", "([BI)B"⟩ : MethodName)) hown (mvT hZ (hw _ (List.mem_of_getElem? (i := 28) rfl))) (mvT hZ (hw _ (List.mem_of_getElem? (i := 29) rfl))) (mvT hZ (hw _ (List.mem_of_getElem? (i := 22) rfl))) (mvT hZ (hw _ (List.mem_of_getElem? (i := 30) rfl))) (by decide) (backOf (W := 1) (rm7_1 l Z a0 hw [] t4 kt4 _ T4.heap n0 Z4 Vc4) hZ (hw _ (List.mem_of_getElem? (i := 30) rfl)) (hw _ (List.mem_of_getElem? (i := 22) rfl)) (by decide) (by decide)) (g := (mkF m 45 #[.val (.ref a1), .val (.ref a2), .val (.int (0 : Int32)), .val (.int (1 : Int32)), .val .null, .val (.ref t4)] [(.int (1 : Int32)), (.ref t4), (.ref a1)])) rfl (by rw [hml]; rfl) (argsL := [(.ref t4), (.int (1 : Int32))]) (rest := [(.ref a1)]) (lenOf pd_3_1_1 rfl) rfl (by show 2 * 0 + _ ≤ _; exact Nat.le_of_eq rfl) (hb hby d3_1_45) (fun _ _ => ⟨rfl, rfl, (by decide : 1 + 0 ≤ _), (by decide : 1 + 0 ≤ _)⟩)
  dsimp only [Pt.U, Pt.locs, Pt.cells, Pt.slots] at X6 l6 y6 z6 st6 hQ6
  subst l6 y6 z6
  obtain ⟨rfl, N6q, er6⟩ := hQ6
  have e6 : T6.heap = T4.heap := er6
  have N6 := Fr.app N5w N6q
  refine Goes.via st6 ?_
  show Goes p e below (T6.setTop (mkF m 48 #[.val (.ref a1), .val (.ref a2), .val (.int (0 : Int32)), .val (.int (1 : Int32)), .val .null, .val (.ref t4)] [(.int (0 : Int32)), (.ref a1)])) _
  obtain ⟨T7, h7, X7, e7, W7, st7⟩ := putFN X6 hx hZ hown (hw _ (List.mem_of_getElem? (i := 31) rfl)) Via.refl e6 F4_30 F4_28 (Or.inr ⟨(hw _ (List.mem_of_getElem? (i := 32) rfl)), rfl, hnm⟩) (hw _ (List.mem_of_getElem? (i := 7) rfl)) (ty := .byte) (v' := (.int (0 : Int32))) (by decide) rfl (by decide) (g := (mkF m 48 #[.val (.ref a1), .val (.ref a2), .val (.int (0 : Int32)), .val (.int (1 : Int32)), .val .null, .val (.ref t4)] [(.int (0 : Int32)), (.ref a1)])) rfl rfl (hb hby d3_1_48)
  have Fw7 := F4_30.same W7
  have F7_57 := F4_28.wr W7
  have F7_58 := F4_29.other W7 (Or.inr (slot_ne (Or.inr (hw _ (List.mem_of_getElem? (i := 34) rfl))) (Or.inr (hw _ (List.mem_of_getElem? (i := 32) rfl))) (by decide) (t := (.array .byte)) (t' := .byte) (by decide) (by decide)))
  have F7_59 := F4_31.other W7 (Ne.symm ne12)
  have F7_60 := Vc4.other W7 (Nat.ne_of_gt lt_a1_t4)
  have K7 : Keep h0 h7 [a1] := K4.wr W7 (Or.inl (List.mem_of_getElem? (i := 0) rfl))
  have Z7 : n0 ≤ h7.size := Nat.le_trans Z4 (Keep.of_wr W7).1
  have N7 := Fr.snoc X7 N6 g1
  have O7 := O4.wr W7 g1
  refine Goes.via st7 ?_
  show Goes p e below (T7.setTop (mkF m 51 #[.val (.ref a1), .val (.ref a2), .val (.int (0 : Int32)), .val (.int (1 : Int32)), .val .null, .val (.ref t4)] [])) _
  refine Goes.via (fun t k => XS.aloadN X7.here hx rfl (hb hby d3_1_51) rfl rfl k) ?_
  show Goes p e below (T7.setTop (mkF m 52 #[.val (.ref a1), .val (.ref a2), .val (.int (0 : Int32)), .val (.int (1 : Int32)), .val .null, .val (.ref t4)] [(.ref a1)])) _
  refine Goes.via (fun t k => XS.aload X7.here hx rfl (hb hby d3_1_52) rfl rfl k) ?_
  show Goes p e below (T7.setTop (mkF m 54 #[.val (.ref a1), .val (.ref a2), .val (.int (0 : Int32)), .val (.int (1 : Int32)), .val .null, .val (.ref t4)] [(.ref t4), (.ref a1)])) _
  obtain ⟨T8, h8, X8, e8, W8, st8⟩ := putF X7 hx hZ hown (host := "") (Or.inl (hw _ (List.mem_of_getElem? (i := 33) rfl))) Via.refl e7 F7_58 F7_57 (Or.inr ⟨(hw _ (List.mem_of_getElem? (i := 34) rfl)), rfl, hnm⟩) (hw _ (List.mem_of_getElem? (i := 7) rfl)) (ty := (.array .byte)) (by decide) rfl rfl (g := (mkF m 54 #[.val (.ref a1), .val (.ref a2), .val (.int (0 : Int32)), .val (.int (1 : Int32)), .val .null, .val (.ref t4)] [(.ref t4), (.ref a1)])) rfl rfl (hb hby d3_1_54)
  have Fw8 := F7_58.same W8
  have F8_73 := F7_57.wr W8
  have F8_74 := F7_59.other W8 (Ne.symm ne12)
  have F8_75 := F7_60.other W8 (Nat.ne_of_gt lt_a1_t4)
  have F8_76 := Fw7.other W8 (Or.inr (slot_ne (Or.inr (hw _ (List.mem_of_getElem? (i := 32) rfl))) (Or.inr (hw _ (List.mem_of_getElem? (i := 34) rfl))) (by decide) (t := .byte) (t' := (.array .byte)) (by decide) (by decide)))
  have K8 : Keep h0 h8 [a1] := K7.wr W8 (Or.inl (List.mem_of_getElem? (i := 0) rfl))
  have Z8 : n0 ≤ h8.size := Nat.le_trans Z7 (Keep.of_wr W8).1
  have N8 := Fr.snoc X8 N7 g1
  have O8 := O7.wr W8 g1
  refine Goes.via st8 ?_
  show Goes p e below (T8.setTop (mkF m 57 #[.val (.ref a1), .val (.ref a2), .val (.int (0 : Int32)), .val (.int (1 : Int32)), .val .null, .val (.ref t4)] [])) _
  obtain ⟨fs, hr, hrun, hended, hW, hsame⟩ := X8.leave (v := none) (fun _ => rfl)
  refine ⟨_, _, ?_, hrun, hended, _, _, rfl, ?_, ⟨_, rfl⟩, hW, hsame.mono (by decide) (by decide)⟩
  · exact X8.returnOut hx Bd.returns (hb hby d3_1_57) hr
  · show Q3_1 Z a1 c0 h0 n0 _ T8.heap _
    rw [e8]
    exact ⟨rfl, N8, K8, F8_73, F8_76, t4, _, gt4, sz_t4, Fw8, F8_75⟩
theorem d2_1_0 : decode jdk_42_method_3_code 0 = .ok (.aload_n 0, 1) := by decide +kernel
theorem d2_1_1 : decode jdk_42_method_3_code 1 = .ok (.aload_n 1, 1) := by decide +kernel
theorem d2_1_2 : decode jdk_42_method_3_code 2 = .ok (.iconst 0, 1) := by decide +kernel
theorem d2_1_3 : decode jdk_42_method_3_code 3 = .ok (.aload_n 1, 1) := by decide +kernel
theorem d2_1_4 : decode jdk_42_method_3_code 4 = .ok (.arraylength, 1) := by decide +kernel
theorem d2_1_5 : decode jdk_42_method_3_code 5 = .ok (.aconst_null, 1) := by decide +kernel
theorem d2_1_6 : decode jdk_42_method_3_code 6 = .ok (.invokespecial 27, 3) := by decide +kernel
theorem d2_1_9 : decode jdk_42_method_3_code 9 = .ok (.return_, 1) := by decide +kernel
theorem pn_2_1 : plainName "java/lang/String" = true := by first | (simp [plainName, overriddenIn]; done) | decide +kernel
theorem pd_2_1_0 : parseMethodDescriptor "([CIILjava/lang/Void;)V" = some ⟨[(.array .char), .int, .int, (.object "java/lang/Void")], none⟩ := by decide +kernel
theorem ef_2_1 (m : MethodId) (x0 : Addr) (x1 : Addr) : entryFrame m #[(.ref x0), (.ref x1)] 2 = mkF m 0 #[.val (.ref x0), .val (.ref x1)] [] := by first | (simp [entryFrame, mkF, argsToLocals, Value.category]; done) | rfl
def Q2_1 (Z : State) (a1 : Addr) (c0 : Int32) (h0 : Heap) (n0 : Nat) (v : Option Value) (h : Heap) (L : List Loc) : Prop := v = none ∧ Fr n0 L ∧ Keep h0 h [a1] ∧ Exa Z h a1 "java/lang/String" ∧ Fld Z h a1 "java/lang/String" "coder" "B" (.int (0 : Int32)) ∧ ∃ (t : Addr) (k : ClassId), n0 ≤ t ∧ h0.size ≤ t ∧ Fld Z h a1 "java/lang/String" "value" "[B" (.ref t) ∧ Arv Z h t k .byte (1 : Int32) [(.int (nar .byte (c0.toInt8.toInt32)))] (.int (0 : Int32))
set_option maxRecDepth 65536 in
set_option maxHeartbeats 40000000 in
theorem rm2_1 (l : Launch) (Z : State) (a0 : Array Value) (hw : ∀ d ∈ tables_1, d.before a0 Z = true) (ws : List Jvm.Cond) (a1 : Addr) (a2 : Addr) (k2 : ClassId) (c0 : Int32) (w0 : Int32) (h0 : Heap) (n0 : Nat) (Z0 : n0 ≤ h0.size) (E1 : Exa Z h0 a1 "java/lang/String") (Fv : Fld Z h0 a1 "java/lang/String" "value" "[B" .null) (Fc : Fld Z h0 a1 "java/lang/String" "coder" "B" (.int (0 : Int32))) (V2 : Arv Z h0 a2 k2 .char (1 : Int32) [(.int c0)] (.int (0 : Int32))) (g1 : n0 ≤ a1) (ne12 : a1 ≠ a2) (O0 : Old Z n0 h0) (St : own_St Z w0) (hc0 : ¬ ((255 : Int32) < c0)) :
    MetFree l (⟨"java/lang/String", "<init>", "([C)V"⟩ : MethodName) (head1 (Jvm.Cond.code (⟨"java/lang/String", "<init>", "([C)V"⟩ : MethodName) jdk_42_method_3_code 2 none :: ws) ({ frames := 3, cells := 1, slots := 1, locals := 52 } : Room)) (fun a U => a = #[(.ref a1), (.ref a2)] ∧ Z.Warmed39 U.vm ∧ U.heap = h0) (fun _ _ _ _ _ => True) (fun _ U o U' => ∃ v L, o = .returned v ∧ Q2_1 Z a1 c0 h0 n0 v U'.heap L ∧ FrameEnd U o U' L ({ frames := 3, cells := 1, slots := 1, locals := 52 } : Room).cells ({ frames := 3, cells := 1, slots := 1, locals := 52 } : Room).slots) := by
  refine MetFree.of_bodySF (plainFor_of_name pn_2_1) hisR ?_
  intro p e s m args below meth c s₁ Bd hml0 hP hK
  obtain ⟨rfl, hZ, hh⟩ := hP
  have hx := Bd.exec
  have hby := Bd.bytes
  have hml : c.maxLocals = 2 := hml0
  have hown : s.vm.findClass "java/lang/String" = some m.cls := findClass_of_methodNamed Bd.named
  have hnm := (name_of_methodNamed Bd.named Bd.method).1
  have X0 : Stand p l e ({ frames := 3, cells := 1, slots := 1, locals := 52 } : Room) s m #[(.ref a1), (.ref a2)] below meth c s₁ [] 0 0 := Stand.of_body Bd
  have e0 : s₁.heap = h0 := by rw [← hh, Bd.state]; rfl
  have N0 := Fr.nil n0
  refine Goes.via (next := s₁.setTop (mkF m 0 #[.val (.ref a1), .val (.ref a2)] [])) (fun t k => castTop (ef_2_1 m a1 a2) k) ?_
  refine Goes.via (fun t k => XS.aloadN X0.here hx rfl (hb hby d2_1_0) rfl rfl k) ?_
  show Goes p e below (s₁.setTop (mkF m 1 #[.val (.ref a1), .val (.ref a2)] [(.ref a1)])) _
  refine Goes.via (fun t k => XS.aloadN X0.here hx rfl (hb hby d2_1_1) rfl rfl k) ?_
  show Goes p e below (s₁.setTop (mkF m 2 #[.val (.ref a1), .val (.ref a2)] [(.ref a2), (.ref a1)])) _
  refine Goes.via (fun t k => XS.iconst X0.here hx rfl (hb hby d2_1_2) k) ?_
  show Goes p e below (s₁.setTop (mkF m 3 #[.val (.ref a1), .val (.ref a2)] [(.int (0 : Int32)), (.ref a2), (.ref a1)])) _
  refine Goes.via (fun t k => XS.aloadN X0.here hx rfl (hb hby d2_1_3) rfl rfl k) ?_
  show Goes p e below (s₁.setTop (mkF m 4 #[.val (.ref a1), .val (.ref a2)] [(.ref a2), (.int (0 : Int32)), (.ref a2), (.ref a1)])) _
  obtain ⟨cl1, Ar1, -, Sa1, Na1, -, -⟩ := id V2
  refine Goes.via (next := s₁.setTop (mkF m 5 #[.val (.ref a1), .val (.ref a2)] [(.int (1 : Int32)), (.int (0 : Int32)), (.ref a2), (.ref a1)])) (fun t k => X0.arraylength hx (by rw [e0]; exact Ar1.1) (State.isArrayOf_alike hZ.alike Ar1.2.1) (g := (mkF m 4 #[.val (.ref a1), .val (.ref a2)] [(.ref a2), (.int (0 : Int32)), (.ref a2), (.ref a1)])) rfl rfl (hb hby d2_1_4) _ (by rw [len_of Sa1 Na1]; exact k)) ?_
  show Goes p e below (s₁.setTop (mkF m 5 #[.val (.ref a1), .val (.ref a2)] [(.int (1 : Int32)), (.int (0 : Int32)), (.ref a2), (.ref a1)])) _
  refine Goes.via (fun t k => XS.aconstNull X0.here hx rfl (hb hby d2_1_5) k) ?_
  show Goes p e below (s₁.setTop (mkF m 6 #[.val (.ref a1), .val (.ref a2)] [.null, (.int (1 : Int32)), (.int (0 : Int32)), (.ref a2), (.ref a1)])) _
  obtain ⟨_, _, ⟨T2, L2, k2, n2⟩, -, X2, ⟨Lc2, hQ2, l2, y2, z2⟩, st2⟩ := X0.specialBack hx (y := (⟨"java/lang/String", "<init>", "([CIILjava/lang/Void;)V"⟩ : MethodName)) rfl hown (mvT hZ (hw _ (List.mem_of_getElem? (i := 12) rfl))) (mvT hZ (hw _ (List.mem_of_getElem? (i := 13) rfl))) (mvT hZ (hw _ (List.mem_of_getElem? (i := 15) rfl))) (by decide) (backOf (W := 0) (rm3_1 l Z a0 hw [] a1 a2 k2 c0 w0 h0 n0 Z0 E1 Fv Fc V2 g1 ne12 O0 St hc0) hZ (hw _ (List.mem_of_getElem? (i := 15) rfl)) (hw _ (List.mem_of_getElem? (i := 8) rfl)) (by decide) (by decide)) (g := (mkF m 6 #[.val (.ref a1), .val (.ref a2)] [.null, (.int (1 : Int32)), (.int (0 : Int32)), (.ref a2), (.ref a1)])) rfl (by rw [hml]; rfl) (Steps.refl _) (a := a1) (argsL := [(.ref a2), (.int (0 : Int32)), (.int (1 : Int32)), .null]) (rest := []) (lenOf pd_2_1_0 rfl) rfl (by show 2 * 0 + _ ≤ _; exact Nat.le_of_eq rfl) (hb hby d2_1_6) (fun _ _ => ⟨rfl, e0, (by decide : 0 + 1 ≤ _), (by decide : 0 + 1 ≤ _)⟩)
  dsimp only [Pt.U, Pt.locs, Pt.cells, Pt.slots] at X2 l2 y2 z2 st2 hQ2
  subst l2 y2 z2
  obtain ⟨rfl, N2q, Kc2, Ec2, Cc2, t2, kt2, gt2, zt2, Vq2, Vc2⟩ := hQ2
  have lt_a1_t2 : a1 < t2 := Nat.lt_of_lt_of_le E1.lt zt2
  have lt_a2_t2 : a2 < t2 := Nat.lt_of_lt_of_le V2.lt zt2
  have sz_t2 : h0.size ≤ t2 := Nat.le_trans (Keep.refl h0 [a1]).1 zt2
  have F2_20 := E1.keep Kc2
  have F2_21 := V2.keep Kc2 (fun q => (Ne.symm ne12) (List.mem_singleton.mp q))
  have K2 : Keep h0 T2.heap [a1] := (Keep.refl h0 [a1]).trans Kc2 (fun x hx => by cases List.mem_singleton.mp hx; exact Or.inl (List.mem_of_getElem? (i := 0) rfl))
  have Z2 : n0 ≤ T2.heap.size := Nat.le_trans Z0 Kc2.1
  have O2 := O0.keep Kc2 (fun x hx => by cases List.mem_singleton.mp hx; exact g1)
  have N2 := Fr.app N0 N2q
  refine Goes.via (fun t k => st2.trans k) ?_
  show Goes p e below (T2.setTop (mkF m 9 #[.val (.ref a1), .val (.ref a2)] [])) _
  obtain ⟨fs, hr, hrun, hended, hW, hsame⟩ := X2.leave (v := none) (fun _ => rfl)
  refine ⟨_, _, ?_, hrun, hended, _, _, rfl, ?_, ⟨_, rfl⟩, hW, hsame.mono (by decide) (by decide)⟩
  · exact X2.returnOut hx Bd.returns (hb hby d2_1_9) hr
  · show Q2_1 Z a1 c0 h0 n0 _ T2.heap _
    exact ⟨rfl, N2, K2, F2_20, Cc2, t2, _, gt2, sz_t2, Vq2, Vc2⟩
theorem d6_2_0 : decode jdk_52_method_21_code 0 = .ok (.iconst 0, 1) := by decide +kernel
theorem d6_2_1 : decode jdk_52_method_21_code 1 = .ok (.istore 5, 2) := by decide +kernel
theorem d6_2_3 : decode jdk_52_method_21_code 3 = .ok (.iload 5, 2) := by decide +kernel
theorem d6_2_5 : decode jdk_52_method_21_code 5 = .ok (.iload 4, 2) := by decide +kernel
theorem d6_2_7 : decode jdk_52_method_21_code 7 = .ok (.if_icmp .ge 37, 3) := by decide +kernel
theorem d6_2_10 : decode jdk_52_method_21_code 10 = .ok (.aload_n 0, 1) := by decide +kernel
theorem d6_2_11 : decode jdk_52_method_21_code 11 = .ok (.iload_n 1, 1) := by decide +kernel
theorem d6_2_12 : decode jdk_52_method_21_code 12 = .ok (.caload, 1) := by decide +kernel
theorem d6_2_13 : decode jdk_52_method_21_code 13 = .ok (.istore 6, 2) := by decide +kernel
theorem d6_2_15 : decode jdk_52_method_21_code 15 = .ok (.iload 6, 2) := by decide +kernel
theorem d6_2_17 : decode jdk_52_method_21_code 17 = .ok (.sipush 255, 3) := by decide +kernel
theorem d6_2_20 : decode jdk_52_method_21_code 20 = .ok (.if_icmp .le 6, 3) := by decide +kernel
theorem d6_2_26 : decode jdk_52_method_21_code 26 = .ok (.aload_n 2, 1) := by decide +kernel
theorem d6_2_27 : decode jdk_52_method_21_code 27 = .ok (.iload_n 3, 1) := by decide +kernel
theorem d6_2_28 : decode jdk_52_method_21_code 28 = .ok (.iload 6, 2) := by decide +kernel
theorem d6_2_30 : decode jdk_52_method_21_code 30 = .ok (.i2b, 1) := by decide +kernel
theorem d6_2_31 : decode jdk_52_method_21_code 31 = .ok (.bastore, 1) := by decide +kernel
theorem d6_2_32 : decode jdk_52_method_21_code 32 = .ok (.iinc 1 1, 3) := by decide +kernel
theorem d6_2_35 : decode jdk_52_method_21_code 35 = .ok (.iinc 3 1, 3) := by decide +kernel
theorem d6_2_38 : decode jdk_52_method_21_code 38 = .ok (.iinc 5 1, 3) := by decide +kernel
theorem d6_2_41 : decode jdk_52_method_21_code 41 = .ok (.goto (-38), 3) := by decide +kernel
theorem d6_2_44 : decode jdk_52_method_21_code 44 = .ok (.iload 4, 2) := by decide +kernel
theorem d6_2_46 : decode jdk_52_method_21_code 46 = .ok (.ireturn, 1) := by decide +kernel
theorem pn_6_2 : plainName "java/lang/StringUTF16" = true := by first | (simp [plainName, overriddenIn]; done) | decide +kernel
theorem ef_6_2 (m : MethodId) (x0 : Addr) (x2 : Addr) : entryFrame m #[(.ref x0), (.int (0 : Int32)), (.ref x2), (.int (0 : Int32)), (.int (2 : Int32))] 7 = mkF m 0 #[.val (.ref x0), .val (.int (0 : Int32)), .val (.ref x2), .val (.int (0 : Int32)), .val (.int (2 : Int32)), .unset, .unset] [] := by first | (simp [entryFrame, mkF, argsToLocals, Value.category]; done) | rfl
def Q6_2 (Z : State) (a2 : Addr) (k2 : ClassId) (c0 c1 : Int32) (h0 : Heap) (n0 : Nat) (v : Option Value) (h : Heap) (L : List Loc) : Prop := v = some (.int (2 : Int32)) ∧ Fr n0 L ∧ Keep h0 h [a2] ∧ Arv Z h a2 k2 .byte (2 : Int32) [(.int (nar .byte (c0.toInt8.toInt32))), (.int (nar .byte (c1.toInt8.toInt32)))] (.int (0 : Int32))
set_option maxRecDepth 65536 in
set_option maxHeartbeats 40000000 in
theorem rm6_2 (l : Launch) (Z : State) (a0 : Array Value) (hw : ∀ d ∈ tables_1, d.before a0 Z = true) (ws : List Jvm.Cond) (a1 : Addr) (a2 : Addr) (k1 k2 : ClassId) (c0 c1 : Int32) (h0 : Heap) (n0 : Nat) (Z0 : n0 ≤ h0.size) (V1 : Arv Z h0 a1 k1 .char (2 : Int32) [(.int c0), (.int c1)] (.int (0 : Int32))) (V2 : Arv Z h0 a2 k2 .byte (2 : Int32) [(.int (0 : Int32)), (.int (0 : Int32))] (.int (0 : Int32))) (g2 : n0 ≤ a2) (lt12 : a1 < a2) (hc0 : ¬ ((255 : Int32) < c0)) (hc1 : ¬ ((255 : Int32) < c1)) :
    MetFree l (⟨"java/lang/StringUTF16", "compress", "([CI[BII)I"⟩ : MethodName) (head1 (Jvm.Cond.code (⟨"java/lang/StringUTF16", "compress", "([CI[BII)I"⟩ : MethodName) jdk_52_method_21_code 7 (some .int) :: ws) ({ frames := 0, cells := 0, slots := 0, locals := 0 } : Room)) (fun a U => a = #[(.ref a1), (.int (0 : Int32)), (.ref a2), (.int (0 : Int32)), (.int (2 : Int32))] ∧ Z.Warmed39 U.vm ∧ U.heap = h0) (fun _ _ _ _ _ => True) (fun _ U o U' => ∃ v L, o = .returned v ∧ Q6_2 Z a2 k2 c0 c1 h0 n0 v U'.heap L ∧ FrameEnd U o U' L ({ frames := 0, cells := 0, slots := 0, locals := 0 } : Room).cells ({ frames := 0, cells := 0, slots := 0, locals := 0 } : Room).slots) := by
  refine MetFree.of_bodySF (plainFor_of_name pn_6_2) hisR ?_
  intro p e s m args below meth c s₁ Bd hml0 hP hK
  obtain ⟨rfl, hZ, hh⟩ := hP
  have hx := Bd.exec
  have hby := Bd.bytes
  have hml : c.maxLocals = 7 := hml0
  have hown : s.vm.findClass "java/lang/StringUTF16" = some m.cls := findClass_of_methodNamed Bd.named
  have hnm := (name_of_methodNamed Bd.named Bd.method).1
  have X0 : Stand p l e ({ frames := 0, cells := 0, slots := 0, locals := 0 } : Room) s m #[(.ref a1), (.int (0 : Int32)), (.ref a2), (.int (0 : Int32)), (.int (2 : Int32))] below meth c s₁ [] 0 0 := Stand.of_body Bd
  have e0 : s₁.heap = h0 := by rw [← hh, Bd.state]; rfl
  have N0 := Fr.nil n0
  refine Goes.via (next := s₁.setTop (mkF m 0 #[.val (.ref a1), .val (.int (0 : Int32)), .val (.ref a2), .val (.int (0 : Int32)), .val (.int (2 : Int32)), .unset, .unset] [])) (fun t k => castTop (ef_6_2 m a1 a2) k) ?_
  refine Goes.via (fun t k => XS.iconst X0.here hx rfl (hb hby d6_2_0) k) ?_
  show Goes p e below (s₁.setTop (mkF m 1 #[.val (.ref a1), .val (.int (0 : Int32)), .val (.ref a2), .val (.int (0 : Int32)), .val (.int (2 : Int32)), .unset, .unset] [(.int (0 : Int32))])) _
  refine Goes.via (fun t k => XS.istore X0.here hx rfl (hb hby d6_2_1) rfl (l' := #[.val (.ref a1), .val (.int (0 : Int32)), .val (.ref a2), .val (.int (0 : Int32)), .val (.int (2 : Int32)), .val (.int (0 : Int32)), .unset]) rfl k) ?_
  show Goes p e below (s₁.setTop (mkF m 3 #[.val (.ref a1), .val (.int (0 : Int32)), .val (.ref a2), .val (.int (0 : Int32)), .val (.int (2 : Int32)), .val (.int (0 : Int32)), .unset] [])) _
  refine Goes.via (fun t k => XS.iload X0.here hx rfl (hb hby d6_2_3) rfl k) ?_
  show Goes p e below (s₁.setTop (mkF m 5 #[.val (.ref a1), .val (.int (0 : Int32)), .val (.ref a2), .val (.int (0 : Int32)), .val (.int (2 : Int32)), .val (.int (0 : Int32)), .unset] [(.int (0 : Int32))])) _
  refine Goes.via (fun t k => XS.iload X0.here hx rfl (hb hby d6_2_5) rfl k) ?_
  show Goes p e below (s₁.setTop (mkF m 7 #[.val (.ref a1), .val (.int (0 : Int32)), .val (.ref a2), .val (.int (0 : Int32)), .val (.int (2 : Int32)), .val (.int (0 : Int32)), .unset] [(.int (2 : Int32)), (.int (0 : Int32))])) _
  refine Goes.via (fun t k => XS.icmpNo X0.here hx rfl (hb hby d6_2_7) rfl (tlt (show (0 : Int32) < (2 : Int32) from (by decide))).2.1 k) ?_
  show Goes p e below (s₁.setTop (mkF m 10 #[.val (.ref a1), .val (.int (0 : Int32)), .val (.ref a2), .val (.int (0 : Int32)), .val (.int (2 : Int32)), .val (.int (0 : Int32)), .unset] [])) _
  refine Goes.via (fun t k => XS.aloadN X0.here hx rfl (hb hby d6_2_10) rfl rfl k) ?_
  show Goes p e below (s₁.setTop (mkF m 11 #[.val (.ref a1), .val (.int (0 : Int32)), .val (.ref a2), .val (.int (0 : Int32)), .val (.int (2 : Int32)), .val (.int (0 : Int32)), .unset] [(.ref a1)])) _
  refine Goes.via (fun t k => XS.iloadN X0.here hx rfl (hb hby d6_2_11) rfl k) ?_
  show Goes p e below (s₁.setTop (mkF m 12 #[.val (.ref a1), .val (.int (0 : Int32)), .val (.ref a2), .val (.int (0 : Int32)), .val (.int (2 : Int32)), .val (.int (0 : Int32)), .unset] [(.int (0 : Int32)), (.ref a1)])) _
  obtain ⟨cl1, Ar1, qa1, Sa1, Na1, Ha1, Ga1⟩ := id V1
  have hin1 : ¬ ((0 : Int32) < 0 ∨ cl1.slots.size ≤ ((0 : Int32)).toNatClampNeg) := inb_of Sa1 ⟨by decide, by decide⟩
  have hat1 : cl1.slots[((0 : Int32)).toNatClampNeg]? = some (.int c0) := Ha1.at hin1 rfl
  refine Goes.via (fun t k => X0.caload hx (j := (0 : Int32)) (v := (.int c0)) (by rw [e0]; exact Ar1.1) (State.isArrayOf_alike hZ.alike Ar1.2.1) Ar1.2.2 hin1 hat1 (g := (mkF m 12 #[.val (.ref a1), .val (.int (0 : Int32)), .val (.ref a2), .val (.int (0 : Int32)), .val (.int (2 : Int32)), .val (.int (0 : Int32)), .unset] [(.int (0 : Int32)), (.ref a1)])) rfl rfl (hb hby d6_2_12) _ k) ?_
  show Goes p e below (s₁.setTop (mkF m 13 #[.val (.ref a1), .val (.int (0 : Int32)), .val (.ref a2), .val (.int (0 : Int32)), .val (.int (2 : Int32)), .val (.int (0 : Int32)), .unset] [(.int c0)])) _
  refine Goes.via (fun t k => XS.istore X0.here hx rfl (hb hby d6_2_13) rfl (l' := #[.val (.ref a1), .val (.int (0 : Int32)), .val (.ref a2), .val (.int (0 : Int32)), .val (.int (2 : Int32)), .val (.int (0 : Int32)), .val (.int c0)]) rfl k) ?_
  show Goes p e below (s₁.setTop (mkF m 15 #[.val (.ref a1), .val (.int (0 : Int32)), .val (.ref a2), .val (.int (0 : Int32)), .val (.int (2 : Int32)), .val (.int (0 : Int32)), .val (.int c0)] [])) _
  refine Goes.via (fun t k => XS.iload X0.here hx rfl (hb hby d6_2_15) rfl k) ?_
  show Goes p e below (s₁.setTop (mkF m 17 #[.val (.ref a1), .val (.int (0 : Int32)), .val (.ref a2), .val (.int (0 : Int32)), .val (.int (2 : Int32)), .val (.int (0 : Int32)), .val (.int c0)] [(.int c0)])) _
  refine Goes.via (fun t k => XS.sipush X0.here hx rfl (hb hby d6_2_17) k) ?_
  show Goes p e below (s₁.setTop (mkF m 20 #[.val (.ref a1), .val (.int (0 : Int32)), .val (.ref a2), .val (.int (0 : Int32)), .val (.int (2 : Int32)), .val (.int (0 : Int32)), .val (.int c0)] [(.int (255 : Int32)), (.int c0)])) _
  refine Goes.via (fun t k => XS.icmpYes X0.here hx rfl (pc0 := 20) (pc' := 26) rfl (hb hby d6_2_20) rfl (flt hc0).2.2.2 (by decide) (by decide) k) ?_
  show Goes p e below (s₁.setTop (mkF m 26 #[.val (.ref a1), .val (.int (0 : Int32)), .val (.ref a2), .val (.int (0 : Int32)), .val (.int (2 : Int32)), .val (.int (0 : Int32)), .val (.int c0)] [])) _
  refine Goes.via (fun t k => XS.aloadN X0.here hx rfl (hb hby d6_2_26) rfl rfl k) ?_
  show Goes p e below (s₁.setTop (mkF m 27 #[.val (.ref a1), .val (.int (0 : Int32)), .val (.ref a2), .val (.int (0 : Int32)), .val (.int (2 : Int32)), .val (.int (0 : Int32)), .val (.int c0)] [(.ref a2)])) _
  refine Goes.via (fun t k => XS.iloadN X0.here hx rfl (hb hby d6_2_27) rfl k) ?_
  show Goes p e below (s₁.setTop (mkF m 28 #[.val (.ref a1), .val (.int (0 : Int32)), .val (.ref a2), .val (.int (0 : Int32)), .val (.int (2 : Int32)), .val (.int (0 : Int32)), .val (.int c0)] [(.int (0 : Int32)), (.ref a2)])) _
  refine Goes.via (fun t k => XS.iload X0.here hx rfl (hb hby d6_2_28) rfl k) ?_
  show Goes p e below (s₁.setTop (mkF m 30 #[.val (.ref a1), .val (.int (0 : Int32)), .val (.ref a2), .val (.int (0 : Int32)), .val (.int (2 : Int32)), .val (.int (0 : Int32)), .val (.int c0)] [(.int c0), (.int (0 : Int32)), (.ref a2)])) _
  refine Goes.via (fun t k => XS.i2b X0.here hx rfl (hb hby d6_2_30) rfl k) ?_
  show Goes p e below (s₁.setTop (mkF m 31 #[.val (.ref a1), .val (.int (0 : Int32)), .val (.ref a2), .val (.int (0 : Int32)), .val (.int (2 : Int32)), .val (.int (0 : Int32)), .val (.int c0)] [(.int (c0.toInt8.toInt32)), (.int (0 : Int32)), (.ref a2)])) _
  obtain ⟨cl2, Ar2, qa2, Sa2, Na2, Ha2, Ga2⟩ := V2
  have hin2 : ¬ ((0 : Int32) < 0 ∨ cl2.slots.size ≤ ((0 : Int32)).toNatClampNeg) := inb_of Sa2 ⟨by decide, by decide⟩
  obtain ⟨T2, h2, X2, e2, W2, st2⟩ := stB X0 hx hZ e0 Ar2 (j := (0 : Int32)) hin2 (g := (mkF m 31 #[.val (.ref a1), .val (.int (0 : Int32)), .val (.ref a2), .val (.int (0 : Int32)), .val (.int (2 : Int32)), .val (.int (0 : Int32)), .val (.int c0)] [(.int (c0.toInt8.toInt32)), (.int (0 : Int32)), (.ref a2)])) rfl rfl (hb hby d6_2_31)
  have V2 : Arv Z h2 a2 k2 .byte (2 : Int32) [(.int (nar .byte (c0.toInt8.toInt32))), (.int (0 : Int32))] (.int (0 : Int32)) := Arv.set Ar2 qa2 Sa2 Na2 Ha2 Ga2 (fits_nar_byte _) W2 0 rfl (Nat.le_of_ble_eq_true rfl)
  have F2_39 := V1.other W2 (Nat.ne_of_lt lt12)
  have K2 : Keep h0 h2 [a2] := (Keep.refl h0 [a2]).wr W2 (Or.inl (List.mem_of_getElem? (i := 0) rfl))
  have Z2 : n0 ≤ h2.size := Nat.le_trans Z0 (Keep.of_wr W2).1
  have N2 := Fr.snoc X2 N0 g2
  refine Goes.via st2 ?_
  show Goes p e below (T2.setTop (mkF m 32 #[.val (.ref a1), .val (.int (0 : Int32)), .val (.ref a2), .val (.int (0 : Int32)), .val (.int (2 : Int32)), .val (.int (0 : Int32)), .val (.int c0)] [])) _
  refine Goes.via (fun t k => XS.iinc X2.here hx rfl (hb hby d6_2_32) rfl (l' := #[.val (.ref a1), .val (.int (1 : Int32)), .val (.ref a2), .val (.int (0 : Int32)), .val (.int (2 : Int32)), .val (.int (0 : Int32)), .val (.int c0)]) rfl k) ?_
  show Goes p e below (T2.setTop (mkF m 35 #[.val (.ref a1), .val (.int (1 : Int32)), .val (.ref a2), .val (.int (0 : Int32)), .val (.int (2 : Int32)), .val (.int (0 : Int32)), .val (.int c0)] [])) _
  refine Goes.via (fun t k => XS.iinc X2.here hx rfl (hb hby d6_2_35) rfl (l' := #[.val (.ref a1), .val (.int (1 : Int32)), .val (.ref a2), .val (.int (1 : Int32)), .val (.int (2 : Int32)), .val (.int (0 : Int32)), .val (.int c0)]) rfl k) ?_
  show Goes p e below (T2.setTop (mkF m 38 #[.val (.ref a1), .val (.int (1 : Int32)), .val (.ref a2), .val (.int (1 : Int32)), .val (.int (2 : Int32)), .val (.int (0 : Int32)), .val (.int c0)] [])) _
  refine Goes.via (fun t k => XS.iinc X2.here hx rfl (hb hby d6_2_38) rfl (l' := #[.val (.ref a1), .val (.int (1 : Int32)), .val (.ref a2), .val (.int (1 : Int32)), .val (.int (2 : Int32)), .val (.int (1 : Int32)), .val (.int c0)]) rfl k) ?_
  show Goes p e below (T2.setTop (mkF m 41 #[.val (.ref a1), .val (.int (1 : Int32)), .val (.ref a2), .val (.int (1 : Int32)), .val (.int (2 : Int32)), .val (.int (1 : Int32)), .val (.int c0)] [])) _
  refine Goes.via (fun t k => XS.goto X2.here hx rfl (pc0 := 41) (pc' := 3) rfl (hb hby d6_2_41) (by decide) (by decide) k) ?_
  show Goes p e below (T2.setTop (mkF m 3 #[.val (.ref a1), .val (.int (1 : Int32)), .val (.ref a2), .val (.int (1 : Int32)), .val (.int (2 : Int32)), .val (.int (1 : Int32)), .val (.int c0)] [])) _
  refine Goes.via (fun t k => XS.iload X2.here hx rfl (hb hby d6_2_3) rfl k) ?_
  show Goes p e below (T2.setTop (mkF m 5 #[.val (.ref a1), .val (.int (1 : Int32)), .val (.ref a2), .val (.int (1 : Int32)), .val (.int (2 : Int32)), .val (.int (1 : Int32)), .val (.int c0)] [(.int (1 : Int32))])) _
  refine Goes.via (fun t k => XS.iload X2.here hx rfl (hb hby d6_2_5) rfl k) ?_
  show Goes p e below (T2.setTop (mkF m 7 #[.val (.ref a1), .val (.int (1 : Int32)), .val (.ref a2), .val (.int (1 : Int32)), .val (.int (2 : Int32)), .val (.int (1 : Int32)), .val (.int c0)] [(.int (2 : Int32)), (.int (1 : Int32))])) _
  refine Goes.via (fun t k => XS.icmpNo X2.here hx rfl (hb hby d6_2_7) rfl (tlt (show (1 : Int32) < (2 : Int32) from (by decide))).2.1 k) ?_
  show Goes p e below (T2.setTop (mkF m 10 #[.val (.ref a1), .val (.int (1 : Int32)), .val (.ref a2), .val (.int (1 : Int32)), .val (.int (2 : Int32)), .val (.int (1 : Int32)), .val (.int c0)] [])) _
  refine Goes.via (fun t k => XS.aloadN X2.here hx rfl (hb hby d6_2_10) rfl rfl k) ?_
  show Goes p e below (T2.setTop (mkF m 11 #[.val (.ref a1), .val (.int (1 : Int32)), .val (.ref a2), .val (.int (1 : Int32)), .val (.int (2 : Int32)), .val (.int (1 : Int32)), .val (.int c0)] [(.ref a1)])) _
  refine Goes.via (fun t k => XS.iloadN X2.here hx rfl (hb hby d6_2_11) rfl k) ?_
  show Goes p e below (T2.setTop (mkF m 12 #[.val (.ref a1), .val (.int (1 : Int32)), .val (.ref a2), .val (.int (1 : Int32)), .val (.int (2 : Int32)), .val (.int (1 : Int32)), .val (.int c0)] [(.int (1 : Int32)), (.ref a1)])) _
  obtain ⟨cl3, Ar3, qa3, Sa3, Na3, Ha3, Ga3⟩ := id F2_39
  have hin3 : ¬ ((1 : Int32) < 0 ∨ cl3.slots.size ≤ ((1 : Int32)).toNatClampNeg) := inb_of Sa3 ⟨by decide, by decide⟩
  have hat3 : cl3.slots[((1 : Int32)).toNatClampNeg]? = some (.int c1) := Ha3.at hin3 rfl
  refine Goes.via (fun t k => X2.caload hx (j := (1 : Int32)) (v := (.int c1)) (by rw [e2]; exact Ar3.1) (State.isArrayOf_alike hZ.alike Ar3.2.1) Ar3.2.2 hin3 hat3 (g := (mkF m 12 #[.val (.ref a1), .val (.int (1 : Int32)), .val (.ref a2), .val (.int (1 : Int32)), .val (.int (2 : Int32)), .val (.int (1 : Int32)), .val (.int c0)] [(.int (1 : Int32)), (.ref a1)])) rfl rfl (hb hby d6_2_12) _ k) ?_
  show Goes p e below (T2.setTop (mkF m 13 #[.val (.ref a1), .val (.int (1 : Int32)), .val (.ref a2), .val (.int (1 : Int32)), .val (.int (2 : Int32)), .val (.int (1 : Int32)), .val (.int c0)] [(.int c1)])) _
  refine Goes.via (fun t k => XS.istore X2.here hx rfl (hb hby d6_2_13) rfl (l' := #[.val (.ref a1), .val (.int (1 : Int32)), .val (.ref a2), .val (.int (1 : Int32)), .val (.int (2 : Int32)), .val (.int (1 : Int32)), .val (.int c1)]) rfl k) ?_
  show Goes p e below (T2.setTop (mkF m 15 #[.val (.ref a1), .val (.int (1 : Int32)), .val (.ref a2), .val (.int (1 : Int32)), .val (.int (2 : Int32)), .val (.int (1 : Int32)), .val (.int c1)] [])) _
  refine Goes.via (fun t k => XS.iload X2.here hx rfl (hb hby d6_2_15) rfl k) ?_
  show Goes p e below (T2.setTop (mkF m 17 #[.val (.ref a1), .val (.int (1 : Int32)), .val (.ref a2), .val (.int (1 : Int32)), .val (.int (2 : Int32)), .val (.int (1 : Int32)), .val (.int c1)] [(.int c1)])) _
  refine Goes.via (fun t k => XS.sipush X2.here hx rfl (hb hby d6_2_17) k) ?_
  show Goes p e below (T2.setTop (mkF m 20 #[.val (.ref a1), .val (.int (1 : Int32)), .val (.ref a2), .val (.int (1 : Int32)), .val (.int (2 : Int32)), .val (.int (1 : Int32)), .val (.int c1)] [(.int (255 : Int32)), (.int c1)])) _
  refine Goes.via (fun t k => XS.icmpYes X2.here hx rfl (pc0 := 20) (pc' := 26) rfl (hb hby d6_2_20) rfl (flt hc1).2.2.2 (by decide) (by decide) k) ?_
  show Goes p e below (T2.setTop (mkF m 26 #[.val (.ref a1), .val (.int (1 : Int32)), .val (.ref a2), .val (.int (1 : Int32)), .val (.int (2 : Int32)), .val (.int (1 : Int32)), .val (.int c1)] [])) _
  refine Goes.via (fun t k => XS.aloadN X2.here hx rfl (hb hby d6_2_26) rfl rfl k) ?_
  show Goes p e below (T2.setTop (mkF m 27 #[.val (.ref a1), .val (.int (1 : Int32)), .val (.ref a2), .val (.int (1 : Int32)), .val (.int (2 : Int32)), .val (.int (1 : Int32)), .val (.int c1)] [(.ref a2)])) _
  refine Goes.via (fun t k => XS.iloadN X2.here hx rfl (hb hby d6_2_27) rfl k) ?_
  show Goes p e below (T2.setTop (mkF m 28 #[.val (.ref a1), .val (.int (1 : Int32)), .val (.ref a2), .val (.int (1 : Int32)), .val (.int (2 : Int32)), .val (.int (1 : Int32)), .val (.int c1)] [(.int (1 : Int32)), (.ref a2)])) _
  refine Goes.via (fun t k => XS.iload X2.here hx rfl (hb hby d6_2_28) rfl k) ?_
  show Goes p e below (T2.setTop (mkF m 30 #[.val (.ref a1), .val (.int (1 : Int32)), .val (.ref a2), .val (.int (1 : Int32)), .val (.int (2 : Int32)), .val (.int (1 : Int32)), .val (.int c1)] [(.int c1), (.int (1 : Int32)), (.ref a2)])) _
  refine Goes.via (fun t k => XS.i2b X2.here hx rfl (hb hby d6_2_30) rfl k) ?_
  show Goes p e below (T2.setTop (mkF m 31 #[.val (.ref a1), .val (.int (1 : Int32)), .val (.ref a2), .val (.int (1 : Int32)), .val (.int (2 : Int32)), .val (.int (1 : Int32)), .val (.int c1)] [(.int (c1.toInt8.toInt32)), (.int (1 : Int32)), (.ref a2)])) _
  obtain ⟨cl4, Ar4, qa4, Sa4, Na4, Ha4, Ga4⟩ := V2
  have hin4 : ¬ ((1 : Int32) < 0 ∨ cl4.slots.size ≤ ((1 : Int32)).toNatClampNeg) := inb_of Sa4 ⟨by decide, by decide⟩
  obtain ⟨T4, h4, X4, e4, W4, st4⟩ := stB X2 hx hZ e2 Ar4 (j := (1 : Int32)) hin4 (g := (mkF m 31 #[.val (.ref a1), .val (.int (1 : Int32)), .val (.ref a2), .val (.int (1 : Int32)), .val (.int (2 : Int32)), .val (.int (1 : Int32)), .val (.int c1)] [(.int (c1.toInt8.toInt32)), (.int (1 : Int32)), (.ref a2)])) rfl rfl (hb hby d6_2_31)
  have V4 : Arv Z h4 a2 k2 .byte (2 : Int32) [(.int (nar .byte (c0.toInt8.toInt32))), (.int (nar .byte (c1.toInt8.toInt32)))] (.int (0 : Int32)) := Arv.set Ar4 qa4 Sa4 Na4 Ha4 Ga4 (fits_nar_byte _) W4 1 rfl (Nat.le_of_ble_eq_true rfl)
  have F4_88 := F2_39.other W4 (Nat.ne_of_lt lt12)
  have K4 : Keep h0 h4 [a2] := K2.wr W4 (Or.inl (List.mem_of_getElem? (i := 0) rfl))
  have Z4 : n0 ≤ h4.size := Nat.le_trans Z2 (Keep.of_wr W4).1
  have N4 := Fr.snoc X4 N2 g2
  refine Goes.via st4 ?_
  show Goes p e below (T4.setTop (mkF m 32 #[.val (.ref a1), .val (.int (1 : Int32)), .val (.ref a2), .val (.int (1 : Int32)), .val (.int (2 : Int32)), .val (.int (1 : Int32)), .val (.int c1)] [])) _
  refine Goes.via (fun t k => XS.iinc X4.here hx rfl (hb hby d6_2_32) rfl (l' := #[.val (.ref a1), .val (.int (2 : Int32)), .val (.ref a2), .val (.int (1 : Int32)), .val (.int (2 : Int32)), .val (.int (1 : Int32)), .val (.int c1)]) rfl k) ?_
  show Goes p e below (T4.setTop (mkF m 35 #[.val (.ref a1), .val (.int (2 : Int32)), .val (.ref a2), .val (.int (1 : Int32)), .val (.int (2 : Int32)), .val (.int (1 : Int32)), .val (.int c1)] [])) _
  refine Goes.via (fun t k => XS.iinc X4.here hx rfl (hb hby d6_2_35) rfl (l' := #[.val (.ref a1), .val (.int (2 : Int32)), .val (.ref a2), .val (.int (2 : Int32)), .val (.int (2 : Int32)), .val (.int (1 : Int32)), .val (.int c1)]) rfl k) ?_
  show Goes p e below (T4.setTop (mkF m 38 #[.val (.ref a1), .val (.int (2 : Int32)), .val (.ref a2), .val (.int (2 : Int32)), .val (.int (2 : Int32)), .val (.int (1 : Int32)), .val (.int c1)] [])) _
  refine Goes.via (fun t k => XS.iinc X4.here hx rfl (hb hby d6_2_38) rfl (l' := #[.val (.ref a1), .val (.int (2 : Int32)), .val (.ref a2), .val (.int (2 : Int32)), .val (.int (2 : Int32)), .val (.int (2 : Int32)), .val (.int c1)]) rfl k) ?_
  show Goes p e below (T4.setTop (mkF m 41 #[.val (.ref a1), .val (.int (2 : Int32)), .val (.ref a2), .val (.int (2 : Int32)), .val (.int (2 : Int32)), .val (.int (2 : Int32)), .val (.int c1)] [])) _
  refine Goes.via (fun t k => XS.goto X4.here hx rfl (pc0 := 41) (pc' := 3) rfl (hb hby d6_2_41) (by decide) (by decide) k) ?_
  show Goes p e below (T4.setTop (mkF m 3 #[.val (.ref a1), .val (.int (2 : Int32)), .val (.ref a2), .val (.int (2 : Int32)), .val (.int (2 : Int32)), .val (.int (2 : Int32)), .val (.int c1)] [])) _
  refine Goes.via (fun t k => XS.iload X4.here hx rfl (hb hby d6_2_3) rfl k) ?_
  show Goes p e below (T4.setTop (mkF m 5 #[.val (.ref a1), .val (.int (2 : Int32)), .val (.ref a2), .val (.int (2 : Int32)), .val (.int (2 : Int32)), .val (.int (2 : Int32)), .val (.int c1)] [(.int (2 : Int32))])) _
  refine Goes.via (fun t k => XS.iload X4.here hx rfl (hb hby d6_2_5) rfl k) ?_
  show Goes p e below (T4.setTop (mkF m 7 #[.val (.ref a1), .val (.int (2 : Int32)), .val (.ref a2), .val (.int (2 : Int32)), .val (.int (2 : Int32)), .val (.int (2 : Int32)), .val (.int c1)] [(.int (2 : Int32)), (.int (2 : Int32))])) _
  refine Goes.via (fun t k => XS.icmpYes X4.here hx rfl (pc0 := 7) (pc' := 44) rfl (hb hby d6_2_7) rfl (flt (show ¬ ((2 : Int32) < (2 : Int32)) from (by decide))).2.1 (by decide) (by decide) k) ?_
  show Goes p e below (T4.setTop (mkF m 44 #[.val (.ref a1), .val (.int (2 : Int32)), .val (.ref a2), .val (.int (2 : Int32)), .val (.int (2 : Int32)), .val (.int (2 : Int32)), .val (.int c1)] [])) _
  refine Goes.via (fun t k => XS.iload X4.here hx rfl (hb hby d6_2_44) rfl k) ?_
  show Goes p e below (T4.setTop (mkF m 46 #[.val (.ref a1), .val (.int (2 : Int32)), .val (.ref a2), .val (.int (2 : Int32)), .val (.int (2 : Int32)), .val (.int (2 : Int32)), .val (.int c1)] [(.int (2 : Int32))])) _
  obtain ⟨fs, hr, hrun, hended, hW, hsame⟩ := X4.leave (v := some (.int (2 : Int32))) (fun h => by rw [Bd.returns] at h; cases h)
  refine ⟨_, _, ?_, hrun, hended, _, _, rfl, ?_, ⟨_, rfl⟩, hW, hsame.mono (by decide) (by decide)⟩
  · exact retI X4 hx Bd.returns (hb hby d6_2_46) hr
  · show Q6_2 Z a2 k2 c0 c1 h0 n0 _ T4.heap _
    rw [e4]
    exact ⟨rfl, N4, K4, V4⟩
theorem d5_2_0 : decode jdk_52_method_16_code 0 = .ok (.iload_n 2, 1) := by decide +kernel
theorem d5_2_1 : decode jdk_52_method_16_code 1 = .ok (.newarray .byte, 2) := by decide +kernel
theorem d5_2_3 : decode jdk_52_method_16_code 3 = .ok (.astore_n 3, 1) := by decide +kernel
theorem d5_2_4 : decode jdk_52_method_16_code 4 = .ok (.aload_n 0, 1) := by decide +kernel
theorem d5_2_5 : decode jdk_52_method_16_code 5 = .ok (.iload_n 1, 1) := by decide +kernel
theorem d5_2_6 : decode jdk_52_method_16_code 6 = .ok (.aload_n 3, 1) := by decide +kernel
theorem d5_2_7 : decode jdk_52_method_16_code 7 = .ok (.iconst 0, 1) := by decide +kernel
theorem d5_2_8 : decode jdk_52_method_16_code 8 = .ok (.iload_n 2, 1) := by decide +kernel
theorem d5_2_9 : decode jdk_52_method_16_code 9 = .ok (.invokestatic 115, 3) := by decide +kernel
theorem d5_2_12 : decode jdk_52_method_16_code 12 = .ok (.istore 4, 2) := by decide +kernel
theorem d5_2_14 : decode jdk_52_method_16_code 14 = .ok (.iload 4, 2) := by decide +kernel
theorem d5_2_16 : decode jdk_52_method_16_code 16 = .ok (.iload_n 2, 1) := by decide +kernel
theorem d5_2_17 : decode jdk_52_method_16_code 17 = .ok (.if_icmp .eq 40, 3) := by decide +kernel
theorem d5_2_57 : decode jdk_52_method_16_code 57 = .ok (.aload_n 3, 1) := by decide +kernel
theorem d5_2_58 : decode jdk_52_method_16_code 58 = .ok (.areturn, 1) := by decide +kernel
theorem pn_5_2 : plainName "java/lang/StringUTF16" = true := by first | (simp [plainName, overriddenIn]; done) | decide +kernel
theorem pd_5_2_0 : parseMethodDescriptor "([CI[BII)I" = some ⟨[(.array .char), .int, (.array .byte), .int, .int], some .int⟩ := by decide +kernel
theorem ef_5_2 (m : MethodId) (x0 : Addr) : entryFrame m #[(.ref x0), (.int (0 : Int32)), (.int (2 : Int32))] 6 = mkF m 0 #[.val (.ref x0), .val (.int (0 : Int32)), .val (.int (2 : Int32)), .unset, .unset, .unset] [] := by first | (simp [entryFrame, mkF, argsToLocals, Value.category]; done) | rfl
def Q5_2 (Z : State) (c0 c1 : Int32) (h0 : Heap) (n0 : Nat) (v : Option Value) (h : Heap) (L : List Loc) : Prop := ∃ (t : Addr) (k : ClassId), v = some (.ref t) ∧ Fr n0 L ∧ n0 ≤ t ∧ h0.size ≤ t ∧ Keep h0 h [] ∧ Arv Z h t k .byte (2 : Int32) [(.int (nar .byte (c0.toInt8.toInt32))), (.int (nar .byte (c1.toInt8.toInt32)))] (.int (0 : Int32))
set_option maxRecDepth 65536 in
set_option maxHeartbeats 40000000 in
theorem rm5_2 (l : Launch) (Z : State) (a0 : Array Value) (hw : ∀ d ∈ tables_1, d.before a0 Z = true) (ws : List Jvm.Cond) (a1 : Addr) (k1 : ClassId) (c0 c1 : Int32) (h0 : Heap) (n0 : Nat) (Z0 : n0 ≤ h0.size) (V1 : Arv Z h0 a1 k1 .char (2 : Int32) [(.int c0), (.int c1)] (.int (0 : Int32))) (hc0 : ¬ ((255 : Int32) < c0)) (hc1 : ¬ ((255 : Int32) < c1)) :
    MetFree l (⟨"java/lang/StringUTF16", "compress", "([CII)[B"⟩ : MethodName) (head1 (Jvm.Cond.code (⟨"java/lang/StringUTF16", "compress", "([CII)[B"⟩ : MethodName) jdk_52_method_16_code 6 (some (.array .byte)) :: ws) ({ frames := 1, cells := 1, slots := 2, locals := 18 } : Room)) (fun a U => a = #[(.ref a1), (.int (0 : Int32)), (.int (2 : Int32))] ∧ Z.Warmed39 U.vm ∧ U.heap = h0) (fun _ _ _ _ _ => True) (fun _ U o U' => ∃ v L, o = .returned v ∧ Q5_2 Z c0 c1 h0 n0 v U'.heap L ∧ FrameEnd U o U' L ({ frames := 1, cells := 1, slots := 2, locals := 18 } : Room).cells ({ frames := 1, cells := 1, slots := 2, locals := 18 } : Room).slots) := by
  refine MetFree.of_bodySF (plainFor_of_name pn_5_2) hisR ?_
  intro p e s m args below meth c s₁ Bd hml0 hP hK
  obtain ⟨rfl, hZ, hh⟩ := hP
  have hx := Bd.exec
  have hby := Bd.bytes
  have hml : c.maxLocals = 6 := hml0
  have hown : s.vm.findClass "java/lang/StringUTF16" = some m.cls := findClass_of_methodNamed Bd.named
  have hnm := (name_of_methodNamed Bd.named Bd.method).1
  have X0 : Stand p l e ({ frames := 1, cells := 1, slots := 2, locals := 18 } : Room) s m #[(.ref a1), (.int (0 : Int32)), (.int (2 : Int32))] below meth c s₁ [] 0 0 := Stand.of_body Bd
  have e0 : s₁.heap = h0 := by rw [← hh, Bd.state]; rfl
  have N0 := Fr.nil n0
  refine Goes.via (next := s₁.setTop (mkF m 0 #[.val (.ref a1), .val (.int (0 : Int32)), .val (.int (2 : Int32)), .unset, .unset, .unset] [])) (fun t k => castTop (ef_5_2 m a1) k) ?_
  refine Goes.via (fun t k => XS.iloadN X0.here hx rfl (hb hby d5_2_0) rfl k) ?_
  show Goes p e below (s₁.setTop (mkF m 1 #[.val (.ref a1), .val (.int (0 : Int32)), .val (.int (2 : Int32)), .unset, .unset, .unset] [(.int (2 : Int32))])) _
  obtain ⟨T1, h1, ka1, X1, e1, E1, A1, st1⟩ := newP X0 hx hZ (hw _ (List.mem_of_getElem? (i := 24) rfl)) e0 (g := (mkF m 1 #[.val (.ref a1), .val (.int (0 : Int32)), .val (.int (2 : Int32)), .unset, .unset, .unset] [(.int (2 : Int32))])) rfl (hb hby d5_2_1) rfl (by decide) (cap := 2) (by decide) (by decide) (by decide) (by decide)
  obtain ⟨b1, g1⟩ : ∃ z, z = h0.size := ⟨_, rfl⟩
  rw [← g1] at A1 st1
  have lt_a1_b1 : a1 < b1 := Nat.lt_of_lt_of_le V1.lt (Nat.le_of_eq g1.symm)
  have ge_b1 : n0 ≤ b1 := Nat.le_trans Z0 (Nat.le_of_eq g1.symm)
  have sz_b1 : h0.size ≤ b1 := Nat.le_trans (Keep.refl h0 []).1 (Nat.le_of_eq g1.symm)
  have F1_8 := V1.ext E1
  have K1 : Keep h0 h1 [] := (Keep.refl h0 []).ext E1
  have Z1 : n0 ≤ h1.size := Nat.le_trans Z0 E1.1
  have V1 : Arv Z h1 b1 ka1 .byte (2 : Int32) [(.int (0 : Int32)), (.int (0 : Int32))] (.int (0 : Int32)) := (Arv.new A1 (by decide)).pad (pad_rep [] (.int (0 : Int32)) 2)
  refine Goes.via st1 ?_
  show Goes p e below (T1.setTop (mkF m 3 #[.val (.ref a1), .val (.int (0 : Int32)), .val (.int (2 : Int32)), .unset, .unset, .unset] [(.ref b1)])) _
  refine Goes.via (fun t k => XS.astoreN X1.here hx rfl (hb hby d5_2_3) rfl rfl (l' := #[.val (.ref a1), .val (.int (0 : Int32)), .val (.int (2 : Int32)), .val (.ref b1), .unset, .unset]) rfl k) ?_
  show Goes p e below (T1.setTop (mkF m 4 #[.val (.ref a1), .val (.int (0 : Int32)), .val (.int (2 : Int32)), .val (.ref b1), .unset, .unset] [])) _
  refine Goes.via (fun t k => XS.aloadN X1.here hx rfl (hb hby d5_2_4) rfl rfl k) ?_
  show Goes p e below (T1.setTop (mkF m 5 #[.val (.ref a1), .val (.int (0 : Int32)), .val (.int (2 : Int32)), .val (.ref b1), .unset, .unset] [(.ref a1)])) _
  refine Goes.via (fun t k => XS.iloadN X1.here hx rfl (hb hby d5_2_5) rfl k) ?_
  show Goes p e below (T1.setTop (mkF m 6 #[.val (.ref a1), .val (.int (0 : Int32)), .val (.int (2 : Int32)), .val (.ref b1), .unset, .unset] [(.int (0 : Int32)), (.ref a1)])) _
  refine Goes.via (fun t k => XS.aloadN X1.here hx rfl (hb hby d5_2_6) rfl rfl k) ?_
  show Goes p e below (T1.setTop (mkF m 7 #[.val (.ref a1), .val (.int (0 : Int32)), .val (.int (2 : Int32)), .val (.ref b1), .unset, .unset] [(.ref b1), (.int (0 : Int32)), (.ref a1)])) _
  refine Goes.via (fun t k => XS.iconst X1.here hx rfl (hb hby d5_2_7) k) ?_
  show Goes p e below (T1.setTop (mkF m 8 #[.val (.ref a1), .val (.int (0 : Int32)), .val (.int (2 : Int32)), .val (.ref b1), .unset, .unset] [(.int (0 : Int32)), (.ref b1), (.int (0 : Int32)), (.ref a1)])) _
  refine Goes.via (fun t k => XS.iloadN X1.here hx rfl (hb hby d5_2_8) rfl k) ?_
  show Goes p e below (T1.setTop (mkF m 9 #[.val (.ref a1), .val (.int (0 : Int32)), .val (.int (2 : Int32)), .val (.ref b1), .unset, .unset] [(.int (2 : Int32)), (.int (0 : Int32)), (.ref b1), (.int (0 : Int32)), (.ref a1)])) _
  obtain ⟨_, _, ⟨T2, L2, k2, n2⟩, -, X2, ⟨Lc2, hQ2, l2, y2, z2⟩, st2⟩ := Jvm.LawKit.callS X1 hx (y := (⟨"java/lang/StringUTF16", "compress", "([CI[BII)I"⟩ : MethodName)) hown (mvT hZ (hw _ (List.mem_of_getElem? (i := 25) rfl))) (mvT hZ (hw _ (List.mem_of_getElem? (i := 26) rfl))) (mvT hZ (hw _ (List.mem_of_getElem? (i := 22) rfl))) (mvT hZ (hw _ (List.mem_of_getElem? (i := 27) rfl))) (by decide) (backOf (W := 0) (rm6_2 l Z a0 hw [] a1 b1 k1 ka1 c0 c1 h1 n0 Z1 F1_8 V1 ge_b1 lt_a1_b1 hc0 hc1) hZ (hw _ (List.mem_of_getElem? (i := 27) rfl)) (hw _ (List.mem_of_getElem? (i := 22) rfl)) (by decide) (by decide)) (g := (mkF m 9 #[.val (.ref a1), .val (.int (0 : Int32)), .val (.int (2 : Int32)), .val (.ref b1), .unset, .unset] [(.int (2 : Int32)), (.int (0 : Int32)), (.ref b1), (.int (0 : Int32)), (.ref a1)])) rfl (by rw [hml]; rfl) (argsL := [(.ref a1), (.int (0 : Int32)), (.ref b1), (.int (0 : Int32)), (.int (2 : Int32))]) (rest := []) (lenOf pd_5_2_0 rfl) rfl (by show 2 * 0 + _ ≤ _; exact Nat.le_of_eq rfl) (hb hby d5_2_9) (fun _ _ => ⟨rfl, e1, (by decide : 1 + 0 ≤ _), (by decide : 2 + 0 ≤ _)⟩)
  dsimp only [Pt.U, Pt.locs, Pt.cells, Pt.slots] at X2 l2 y2 z2 st2 hQ2
  subst l2 y2 z2
  obtain ⟨rfl, N2q, Kc2, Vc2⟩ := hQ2
  have F2_30 := F1_8.keep Kc2 (fun q => (Nat.ne_of_lt lt_a1_b1) (List.mem_singleton.mp q))
  have K2 : Keep h0 T2.heap [] := K1.trans Kc2 (fun x hx => by cases List.mem_singleton.mp hx; exact Or.inr sz_b1)
  have Z2 : n0 ≤ T2.heap.size := Nat.le_trans Z1 Kc2.1
  have N2 := Fr.app N0 N2q
  refine Goes.via st2 ?_
  show Goes p e below (T2.setTop (mkF m 12 #[.val (.ref a1), .val (.int (0 : Int32)), .val (.int (2 : Int32)), .val (.ref b1), .unset, .unset] [(.int (2 : Int32))])) _
  refine Goes.via (fun t k => XS.istore X2.here hx rfl (hb hby d5_2_12) rfl (l' := #[.val (.ref a1), .val (.int (0 : Int32)), .val (.int (2 : Int32)), .val (.ref b1), .val (.int (2 : Int32)), .unset]) rfl k) ?_
  show Goes p e below (T2.setTop (mkF m 14 #[.val (.ref a1), .val (.int (0 : Int32)), .val (.int (2 : Int32)), .val (.ref b1), .val (.int (2 : Int32)), .unset] [])) _
  refine Goes.via (fun t k => XS.iload X2.here hx rfl (hb hby d5_2_14) rfl k) ?_
  show Goes p e below (T2.setTop (mkF m 16 #[.val (.ref a1), .val (.int (0 : Int32)), .val (.int (2 : Int32)), .val (.ref b1), .val (.int (2 : Int32)), .unset] [(.int (2 : Int32))])) _
  refine Goes.via (fun t k => XS.iloadN X2.here hx rfl (hb hby d5_2_16) rfl k) ?_
  show Goes p e below (T2.setTop (mkF m 17 #[.val (.ref a1), .val (.int (0 : Int32)), .val (.int (2 : Int32)), .val (.ref b1), .val (.int (2 : Int32)), .unset] [(.int (2 : Int32)), (.int (2 : Int32))])) _
  refine Goes.via (fun t k => XS.icmpYes X2.here hx rfl (pc0 := 17) (pc' := 57) rfl (hb hby d5_2_17) rfl (teq (show (2 : Int32) = (2 : Int32) from rfl)).1 (by decide) (by decide) k) ?_
  show Goes p e below (T2.setTop (mkF m 57 #[.val (.ref a1), .val (.int (0 : Int32)), .val (.int (2 : Int32)), .val (.ref b1), .val (.int (2 : Int32)), .unset] [])) _
  refine Goes.via (fun t k => XS.aloadN X2.here hx rfl (hb hby d5_2_57) rfl rfl k) ?_
  show Goes p e below (T2.setTop (mkF m 58 #[.val (.ref a1), .val (.int (0 : Int32)), .val (.int (2 : Int32)), .val (.ref b1), .val (.int (2 : Int32)), .unset] [(.ref b1)])) _
  obtain ⟨fs, hr, hrun, hended, hW, hsame⟩ := X2.leave (v := some (.ref b1)) (fun h => by rw [Bd.returns] at h; cases h)
  refine ⟨_, _, ?_, hrun, hended, _, _, rfl, ?_, ⟨_, rfl⟩, hW, hsame.mono (by decide) (by decide)⟩
  · exact retOut X2 hx (t := (.array .byte)) Bd.returns rfl (Or.inr (Or.inr (Or.inr (Or.inr ⟨rfl, rfl, rfl⟩)))) (hb hby d5_2_58) hr
  · exact ⟨b1, _, rfl, N2, ge_b1, sz_b1, K2, Vc2⟩
theorem d7_2_0 : decode jdk_52_method_15_code 0 = .ok (.iload_n 1, 1) := by decide +kernel
theorem d7_2_1 : decode jdk_52_method_15_code 1 = .ok (.aload_n 0, 1) := by decide +kernel
theorem d7_2_2 : decode jdk_52_method_15_code 2 = .ok (.arraylength, 1) := by decide +kernel
theorem d7_2_3 : decode jdk_52_method_15_code 3 = .ok (.isub, 1) := by decide +kernel
theorem d7_2_4 : decode jdk_52_method_15_code 4 = .ok (.bipush 31, 2) := by decide +kernel
theorem d7_2_6 : decode jdk_52_method_15_code 6 = .ok (.iushr, 1) := by decide +kernel
theorem d7_2_7 : decode jdk_52_method_15_code 7 = .ok (.i2b, 1) := by decide +kernel
theorem d7_2_8 : decode jdk_52_method_15_code 8 = .ok (.ireturn, 1) := by decide +kernel
theorem pn_7_2 : plainName "java/lang/StringUTF16" = true := by first | (simp [plainName, overriddenIn]; done) | decide +kernel
theorem ef_7_2 (m : MethodId) (x0 : Addr) : entryFrame m #[(.ref x0), (.int (2 : Int32))] 2 = mkF m 0 #[.val (.ref x0), .val (.int (2 : Int32))] [] := by first | (simp [entryFrame, mkF, argsToLocals, Value.category]; done) | rfl
def Q7_2 (Z : State) (h0 : Heap) (n0 : Nat) (v : Option Value) (h : Heap) (L : List Loc) : Prop := v = some (.int (0 : Int32)) ∧ Fr n0 L ∧ h = h0
set_option maxRecDepth 65536 in
set_option maxHeartbeats 40000000 in
theorem rm7_2 (l : Launch) (Z : State) (a0 : Array Value) (hw : ∀ d ∈ tables_1, d.before a0 Z = true) (ws : List Jvm.Cond) (a1 : Addr) (k1 : ClassId) (vs : List Value) (h0 : Heap) (n0 : Nat) (Z0 : n0 ≤ h0.size) (V1 : Arv Z h0 a1 k1 .byte (2 : Int32) vs (.int (0 : Int32))) :
    MetFree l (⟨"java/lang/StringUTF16", "coderFromArrayLen", "([BI)B"⟩ : MethodName) (head1 (Jvm.Cond.code (⟨"java/lang/StringUTF16", "coderFromArrayLen", "([BI)B"⟩ : MethodName) jdk_52_method_15_code 2 (some .byte) :: ws) ({ frames := 0, cells := 0, slots := 0, locals := 0 } : Room)) (fun a U => a = #[(.ref a1), (.int (2 : Int32))] ∧ Z.Warmed39 U.vm ∧ U.heap = h0) (fun _ _ _ _ _ => True) (fun _ U o U' => ∃ v L, o = .returned v ∧ Q7_2 Z  h0 n0 v U'.heap L ∧ FrameEnd U o U' L ({ frames := 0, cells := 0, slots := 0, locals := 0 } : Room).cells ({ frames := 0, cells := 0, slots := 0, locals := 0 } : Room).slots) := by
  refine MetFree.of_bodySF (plainFor_of_name pn_7_2) hisR ?_
  intro p e s m args below meth c s₁ Bd hml0 hP hK
  obtain ⟨rfl, hZ, hh⟩ := hP
  have hx := Bd.exec
  have hby := Bd.bytes
  have hml : c.maxLocals = 2 := hml0
  have hown : s.vm.findClass "java/lang/StringUTF16" = some m.cls := findClass_of_methodNamed Bd.named
  have hnm := (name_of_methodNamed Bd.named Bd.method).1
  have X0 : Stand p l e ({ frames := 0, cells := 0, slots := 0, locals := 0 } : Room) s m #[(.ref a1), (.int (2 : Int32))] below meth c s₁ [] 0 0 := Stand.of_body Bd
  have e0 : s₁.heap = h0 := by rw [← hh, Bd.state]; rfl
  have N0 := Fr.nil n0
  refine Goes.via (next := s₁.setTop (mkF m 0 #[.val (.ref a1), .val (.int (2 : Int32))] [])) (fun t k => castTop (ef_7_2 m a1) k) ?_
  refine Goes.via (fun t k => XS.iloadN X0.here hx rfl (hb hby d7_2_0) rfl k) ?_
  show Goes p e below (s₁.setTop (mkF m 1 #[.val (.ref a1), .val (.int (2 : Int32))] [(.int (2 : Int32))])) _
  refine Goes.via (fun t k => XS.aloadN X0.here hx rfl (hb hby d7_2_1) rfl rfl k) ?_
  show Goes p e below (s₁.setTop (mkF m 2 #[.val (.ref a1), .val (.int (2 : Int32))] [(.ref a1), (.int (2 : Int32))])) _
  obtain ⟨cl1, Ar1, -, Sa1, Na1, -, -⟩ := id V1
  refine Goes.via (next := s₁.setTop (mkF m 3 #[.val (.ref a1), .val (.int (2 : Int32))] [(.int (2 : Int32)), (.int (2 : Int32))])) (fun t k => X0.arraylength hx (by rw [e0]; exact Ar1.1) (State.isArrayOf_alike hZ.alike Ar1.2.1) (g := (mkF m 2 #[.val (.ref a1), .val (.int (2 : Int32))] [(.ref a1), (.int (2 : Int32))])) rfl rfl (hb hby d7_2_2) _ (by rw [len_of Sa1 Na1]; exact k)) ?_
  show Goes p e below (s₁.setTop (mkF m 3 #[.val (.ref a1), .val (.int (2 : Int32))] [(.int (2 : Int32)), (.int (2 : Int32))])) _
  refine Goes.via (fun t k => XS.isub X0.here hx rfl (hb hby d7_2_3) rfl k) ?_
  show Goes p e below (s₁.setTop (mkF m 4 #[.val (.ref a1), .val (.int (2 : Int32))] [(.int (0 : Int32))])) _
  refine Goes.via (fun t k => XS.bipush X0.here hx rfl (hb hby d7_2_4) k) ?_
  show Goes p e below (s₁.setTop (mkF m 6 #[.val (.ref a1), .val (.int (2 : Int32))] [(.int (31 : Int32)), (.int (0 : Int32))])) _
  refine Goes.via (fun t k => XS.iushr X0.here hx rfl (hb hby d7_2_6) rfl k) ?_
  show Goes p e below (s₁.setTop (mkF m 7 #[.val (.ref a1), .val (.int (2 : Int32))] [(.int (0 : Int32))])) _
  refine Goes.via (fun t k => XS.i2b X0.here hx rfl (hb hby d7_2_7) rfl k) ?_
  show Goes p e below (s₁.setTop (mkF m 8 #[.val (.ref a1), .val (.int (2 : Int32))] [(.int (0 : Int32))])) _
  obtain ⟨fs, hr, hrun, hended, hW, hsame⟩ := X0.leave (v := some (.int (0 : Int32))) (fun h => by rw [Bd.returns] at h; cases h)
  refine ⟨_, _, ?_, hrun, hended, _, _, rfl, ?_, ⟨_, rfl⟩, hW, hsame.mono (by decide) (by decide)⟩
  · exact retN X0 hx (t := .byte) Bd.returns (by simp) (hb hby d7_2_8) hr
  · show Q7_2 Z  h0 n0 _ s₁.heap _
    rw [e0]
    exact ⟨rfl, N0, rfl⟩
theorem d3_2_0 : decode jdk_42_method_149_code 0 = .ok (.aload_n 0, 1) := by decide +kernel
theorem d3_2_1 : decode jdk_42_method_149_code 1 = .ok (.invokespecial 1, 3) := by decide +kernel
theorem d3_2_4 : decode jdk_42_method_149_code 4 = .ok (.iload_n 3, 1) := by decide +kernel
theorem d3_2_5 : decode jdk_42_method_149_code 5 = .ok (.ifCond .ne 22, 3) := by decide +kernel
theorem d3_2_27 : decode jdk_42_method_149_code 27 = .ok (.getstatic 38, 3) := by decide +kernel
theorem d3_2_30 : decode jdk_42_method_149_code 30 = .ok (.ifCond .eq 28, 3) := by decide +kernel
theorem d3_2_33 : decode jdk_42_method_149_code 33 = .ok (.aload_n 1, 1) := by decide +kernel
theorem d3_2_34 : decode jdk_42_method_149_code 34 = .ok (.iload_n 2, 1) := by decide +kernel
theorem d3_2_35 : decode jdk_42_method_149_code 35 = .ok (.iload_n 3, 1) := by decide +kernel
theorem d3_2_36 : decode jdk_42_method_149_code 36 = .ok (.invokestatic 177, 3) := by decide +kernel
theorem d3_2_39 : decode jdk_42_method_149_code 39 = .ok (.astore 5, 2) := by decide +kernel
theorem d3_2_41 : decode jdk_42_method_149_code 41 = .ok (.aload_n 0, 1) := by decide +kernel
theorem d3_2_42 : decode jdk_42_method_149_code 42 = .ok (.aload 5, 2) := by decide +kernel
theorem d3_2_44 : decode jdk_42_method_149_code 44 = .ok (.iload_n 3, 1) := by decide +kernel
theorem d3_2_45 : decode jdk_42_method_149_code 45 = .ok (.invokestatic 47, 3) := by decide +kernel
theorem d3_2_48 : decode jdk_42_method_149_code 48 = .ok (.putfield 15, 3) := by decide +kernel
theorem d3_2_51 : decode jdk_42_method_149_code 51 = .ok (.aload_n 0, 1) := by decide +kernel
theorem d3_2_52 : decode jdk_42_method_149_code 52 = .ok (.aload 5, 2) := by decide +kernel
theorem d3_2_54 : decode jdk_42_method_149_code 54 = .ok (.putfield 9, 3) := by decide +kernel
theorem d3_2_57 : decode jdk_42_method_149_code 57 = .ok (.return_, 1) := by decide +kernel
theorem pn_3_2 : plainName "java/lang/String" = true := by first | (simp [plainName, overriddenIn]; done) | decide +kernel
theorem pd_3_2_0 : parseMethodDescriptor "([CII)[B" = some ⟨[(.array .char), .int, .int], some (.array .byte)⟩ := by decide +kernel
theorem pd_3_2_1 : parseMethodDescriptor "([BI)B" = some ⟨[(.array .byte), .int], some .byte⟩ := by decide +kernel
theorem ef_3_2 (m : MethodId) (x0 : Addr) (x1 : Addr) : entryFrame m #[(.ref x0), (.ref x1), (.int (0 : Int32)), (.int (2 : Int32)), .null] 6 = mkF m 0 #[.val (.ref x0), .val (.ref x1), .val (.int (0 : Int32)), .val (.int (2 : Int32)), .val .null, .unset] [] := by first | (simp [entryFrame, mkF, argsToLocals, Value.category]; done) | rfl
def Q3_2 (Z : State) (a1 : Addr) (c0 c1 : Int32) (h0 : Heap) (n0 : Nat) (v : Option Value) (h : Heap) (L : List Loc) : Prop := v = none ∧ Fr n0 L ∧ Keep h0 h [a1] ∧ Exa Z h a1 "java/lang/String" ∧ Fld Z h a1 "java/lang/String" "coder" "B" (.int (0 : Int32)) ∧ ∃ (t : Addr) (k : ClassId), n0 ≤ t ∧ h0.size ≤ t ∧ Fld Z h a1 "java/lang/String" "value" "[B" (.ref t) ∧ Arv Z h t k .byte (2 : Int32) [(.int (nar .byte (c0.toInt8.toInt32))), (.int (nar .byte (c1.toInt8.toInt32)))] (.int (0 : Int32))
set_option maxRecDepth 65536 in
set_option maxHeartbeats 40000000 in
theorem rm3_2 (l : Launch) (Z : State) (a0 : Array Value) (hw : ∀ d ∈ tables_1, d.before a0 Z = true) (ws : List Jvm.Cond) (a1 : Addr) (a2 : Addr) (k2 : ClassId) (c0 c1 : Int32) (w0 : Int32) (h0 : Heap) (n0 : Nat) (Z0 : n0 ≤ h0.size) (E1 : Exa Z h0 a1 "java/lang/String") (Fv : Fld Z h0 a1 "java/lang/String" "value" "[B" .null) (Fc : Fld Z h0 a1 "java/lang/String" "coder" "B" (.int (0 : Int32))) (V2 : Arv Z h0 a2 k2 .char (2 : Int32) [(.int c0), (.int c1)] (.int (0 : Int32))) (g1 : n0 ≤ a1) (ne12 : a1 ≠ a2) (O0 : Old Z n0 h0) (St : own_St Z w0) (hc0 : ¬ ((255 : Int32) < c0)) (hc1 : ¬ ((255 : Int32) < c1)) :
    MetFree l (⟨"java/lang/String", "<init>", "([CIILjava/lang/Void;)V"⟩ : MethodName) (head1 (Jvm.Cond.code (⟨"java/lang/String", "<init>", "([CIILjava/lang/Void;)V"⟩ : MethodName) jdk_42_method_149_code 6 none :: ws) ({ frames := 2, cells := 1, slots := 2, locals := 35 } : Room)) (fun a U => a = #[(.ref a1), (.ref a2), (.int (0 : Int32)), (.int (2 : Int32)), .null] ∧ Z.Warmed39 U.vm ∧ U.heap = h0) (fun _ _ _ _ _ => True) (fun _ U o U' => ∃ v L, o = .returned v ∧ Q3_2 Z a1 c0 c1 h0 n0 v U'.heap L ∧ FrameEnd U o U' L ({ frames := 2, cells := 1, slots := 2, locals := 35 } : Room).cells ({ frames := 2, cells := 1, slots := 2, locals := 35 } : Room).slots) := by
  refine MetFree.of_bodySF (plainFor_of_name pn_3_2) hisR ?_
  intro p e s m args below meth c s₁ Bd hml0 hP hK
  obtain ⟨rfl, hZ, hh⟩ := hP
  have hx := Bd.exec
  have hby := Bd.bytes
  have hml : c.maxLocals = 6 := hml0
  have hown : s.vm.findClass "java/lang/String" = some m.cls := findClass_of_methodNamed Bd.named
  have hnm := (name_of_methodNamed Bd.named Bd.method).1
  have X0 : Stand p l e ({ frames := 2, cells := 1, slots := 2, locals := 35 } : Room) s m #[(.ref a1), (.ref a2), (.int (0 : Int32)), (.int (2 : Int32)), .null] below meth c s₁ [] 0 0 := Stand.of_body Bd
  have e0 : s₁.heap = h0 := by rw [← hh, Bd.state]; rfl
  have N0 := Fr.nil n0
  refine Goes.via (next := s₁.setTop (mkF m 0 #[.val (.ref a1), .val (.ref a2), .val (.int (0 : Int32)), .val (.int (2 : Int32)), .val .null, .unset] [])) (fun t k => castTop (ef_3_2 m a1 a2) k) ?_
  refine Goes.via (fun t k => XS.aloadN X0.here hx rfl (hb hby d3_2_0) rfl rfl k) ?_
  show Goes p e below (s₁.setTop (mkF m 1 #[.val (.ref a1), .val (.ref a2), .val (.int (0 : Int32)), .val (.int (2 : Int32)), .val .null, .unset] [(.ref a1)])) _
  obtain ⟨T1, X1, e1, st1⟩ := initO X0 hx hZ hown (hw _ (List.mem_of_getElem? (i := 16) rfl)) (hw _ (List.mem_of_getElem? (i := 17) rfl)) (hw _ (List.mem_of_getElem? (i := 18) rfl)) e0 (g := (mkF m 1 #[.val (.ref a1), .val (.ref a2), .val (.int (0 : Int32)), .val (.int (2 : Int32)), .val .null, .unset] [(.ref a1)])) rfl (by rw [hml]; rfl) rfl (hb hby d3_2_1) (by decide) (W := 0) (by show 2 * 0 + _ ≤ _; exact Nat.le_of_eq rfl) (by decide)
  refine Goes.via st1 ?_
  show Goes p e below (T1.setTop (mkF m 4 #[.val (.ref a1), .val (.ref a2), .val (.int (0 : Int32)), .val (.int (2 : Int32)), .val .null, .unset] [])) _
  refine Goes.via (fun t k => XS.iloadN X1.here hx rfl (hb hby d3_2_4) rfl k) ?_
  show Goes p e below (T1.setTop (mkF m 5 #[.val (.ref a1), .val (.ref a2), .val (.int (0 : Int32)), .val (.int (2 : Int32)), .val .null, .unset] [(.int (2 : Int32))])) _
  refine Goes.via (fun t k => XS.ifYes X1.here hx rfl (pc0 := 5) (pc' := 27) rfl (hb hby d3_2_5) rfl ((if0 _ _).trans (feq (show ¬ ((2 : Int32) = (0 : Int32)) from (by decide))).2) (by decide) (by decide) k) ?_
  show Goes p e below (T1.setTop (mkF m 27 #[.val (.ref a1), .val (.ref a2), .val (.int (0 : Int32)), .val (.int (2 : Int32)), .val .null, .unset] [])) _
  obtain ⟨T2, X2, e2, st2⟩ := getS2 X1 hx hZ hown (host := "") (Or.inl (hw _ (List.mem_of_getElem? (i := 19) rfl))) Via.refl e1 (St.1.ext O0.2) (g := (mkF m 27 #[.val (.ref a1), .val (.ref a2), .val (.int (0 : Int32)), .val (.int (2 : Int32)), .val .null, .unset] [])) rfl (hb hby d3_2_27)
  refine Goes.via st2 ?_
  show Goes p e below (T2.setTop (mkF m 30 #[.val (.ref a1), .val (.ref a2), .val (.int (0 : Int32)), .val (.int (2 : Int32)), .val .null, .unset] [(.int w0)])) _
  have hc30_3 : ¬ (w0 = (0 : Int32)) := St.2.1
  refine Goes.via (fun t k => XS.ifNo X2.here hx rfl (hb hby d3_2_30) rfl ((if0 _ _).trans (feq hc30_3).1) k) ?_
  show Goes p e below (T2.setTop (mkF m 33 #[.val (.ref a1), .val (.ref a2), .val (.int (0 : Int32)), .val (.int (2 : Int32)), .val .null, .unset] [])) _
  refine Goes.via (fun t k => XS.aloadN X2.here hx rfl (hb hby d3_2_33) rfl rfl k) ?_
  show Goes p e below (T2.setTop (mkF m 34 #[.val (.ref a1), .val (.ref a2), .val (.int (0 : Int32)), .val (.int (2 : Int32)), .val .null, .unset] [(.ref a2)])) _
  refine Goes.via (fun t k => XS.iloadN X2.here hx rfl (hb hby d3_2_34) rfl k) ?_
  show Goes p e below (T2.setTop (mkF m 35 #[.val (.ref a1), .val (.ref a2), .val (.int (0 : Int32)), .val (.int (2 : Int32)), .val .null, .unset] [(.int (0 : Int32)), (.ref a2)])) _
  refine Goes.via (fun t k => XS.iloadN X2.here hx rfl (hb hby d3_2_35) rfl k) ?_
  show Goes p e below (T2.setTop (mkF m 36 #[.val (.ref a1), .val (.ref a2), .val (.int (0 : Int32)), .val (.int (2 : Int32)), .val .null, .unset] [(.int (2 : Int32)), (.int (0 : Int32)), (.ref a2)])) _
  obtain ⟨_, _, ⟨T4, L4, k4, n4⟩, -, X4, ⟨Lc4, hQ4, l4, y4, z4⟩, st4⟩ := Jvm.LawKit.callS X2 hx (y := (⟨"java/lang/StringUTF16", "compress", "([CII)[B"⟩ : MethodName)) hown (mvT hZ (hw _ (List.mem_of_getElem? (i := 20) rfl))) (mvT hZ (hw _ (List.mem_of_getElem? (i := 21) rfl))) (mvT hZ (hw _ (List.mem_of_getElem? (i := 22) rfl))) (mvT hZ (hw _ (List.mem_of_getElem? (i := 23) rfl))) (by decide) (backOf (W := 0) (rm5_2 l Z a0 hw [] a2 k2 c0 c1 h0 n0 Z0 V2 hc0 hc1) hZ (hw _ (List.mem_of_getElem? (i := 23) rfl)) (hw _ (List.mem_of_getElem? (i := 22) rfl)) (by decide) (by decide)) (g := (mkF m 36 #[.val (.ref a1), .val (.ref a2), .val (.int (0 : Int32)), .val (.int (2 : Int32)), .val .null, .unset] [(.int (2 : Int32)), (.int (0 : Int32)), (.ref a2)])) rfl (by rw [hml]; rfl) (argsL := [(.ref a2), (.int (0 : Int32)), (.int (2 : Int32))]) (rest := []) (lenOf pd_3_2_0 rfl) rfl (by show 2 * 0 + _ ≤ _; exact Nat.le_of_eq rfl) (hb hby d3_2_36) (fun _ _ => ⟨rfl, e2, (by decide : 0 + 1 ≤ _), (by decide : 0 + 2 ≤ _)⟩)
  dsimp only [Pt.U, Pt.locs, Pt.cells, Pt.slots] at X4 l4 y4 z4 st4 hQ4
  subst l4 y4 z4
  obtain ⟨t4, kt4, rfl, N4q, gt4, zt4, Kc4, Vc4⟩ := hQ4
  have lt_a1_t4 : a1 < t4 := Nat.lt_of_lt_of_le E1.lt zt4
  have lt_a2_t4 : a2 < t4 := Nat.lt_of_lt_of_le V2.lt zt4
  have sz_t4 : h0.size ≤ t4 := Nat.le_trans (Keep.refl h0 [a1]).1 zt4
  have F4_28 := E1.keep Kc4
  have F4_29 := Fv.keep Kc4 List.not_mem_nil
  have F4_30 := Fc.keep Kc4 List.not_mem_nil
  have F4_31 := V2.keep Kc4 List.not_mem_nil
  have K4 : Keep h0 T4.heap [a1] := (Keep.refl h0 [a1]).trans Kc4 (fun x hx => nomatch hx)
  have Z4 : n0 ≤ T4.heap.size := Nat.le_trans Z0 Kc4.1
  have O4 := O0.keep Kc4 (fun x hx => nomatch hx)
  have N4 := Fr.app N0 N4q
  refine Goes.via st4 ?_
  show Goes p e below (T4.setTop (mkF m 39 #[.val (.ref a1), .val (.ref a2), .val (.int (0 : Int32)), .val (.int (2 : Int32)), .val .null, .unset] [(.ref t4)])) _
  refine Goes.via (fun t k => XS.astore X4.here hx rfl (hb hby d3_2_39) rfl rfl (l' := #[.val (.ref a1), .val (.ref a2), .val (.int (0 : Int32)), .val (.int (2 : Int32)), .val .null, .val (.ref t4)]) rfl k) ?_
  show Goes p e below (T4.setTop (mkF m 41 #[.val (.ref a1), .val (.ref a2), .val (.int (0 : Int32)), .val (.int (2 : Int32)), .val .null, .val (.ref t4)] [])) _
  refine Goes.via (fun t k => XS.aloadN X4.here hx rfl (hb hby d3_2_41) rfl rfl k) ?_
  show Goes p e below (T4.setTop (mkF m 42 #[.val (.ref a1), .val (.ref a2), .val (.int (0 : Int32)), .val (.int (2 : Int32)), .val .null, .val (.ref t4)] [(.ref a1)])) _
  refine Goes.via (fun t k => XS.aload X4.here hx rfl (hb hby d3_2_42) rfl rfl k) ?_
  show Goes p e below (T4.setTop (mkF m 44 #[.val (.ref a1), .val (.ref a2), .val (.int (0 : Int32)), .val (.int (2 : Int32)), .val .null, .val (.ref t4)] [(.ref t4), (.ref a1)])) _
  refine Goes.via (fun t k => XS.iloadN X4.here hx rfl (hb hby d3_2_44) rfl k) ?_
  show Goes p e below (T4.setTop (mkF m 45 #[.val (.ref a1), .val (.ref a2), .val (.int (0 : Int32)), .val (.int (2 : Int32)), .val .null, .val (.ref t4)] [(.int (2 : Int32)), (.ref t4), (.ref a1)])) _
  obtain ⟨Lw5, X5w, N5w⟩ := ownPack X4 N4
  obtain ⟨_, _, ⟨T6, L6, k6, n6⟩, -, X6, ⟨Lc6, hQ6, l6, y6, z6⟩, st6⟩ := Jvm.LawKit.callS X5w hx (y := (⟨"java/lang/StringUTF16", "coderFromArrayLen", "([BI)B"⟩ : MethodName)) hown (mvT hZ (hw _ (List.mem_of_getElem? (i := 28) rfl))) (mvT hZ (hw _ (List.mem_of_getElem? (i := 29) rfl))) (mvT hZ (hw _ (List.mem_of_getElem? (i := 22) rfl))) (mvT hZ (hw _ (List.mem_of_getElem? (i := 30) rfl))) (by decide) (backOf (W := 1) (rm7_2 l Z a0 hw [] t4 kt4 _ T4.heap n0 Z4 Vc4) hZ (hw _ (List.mem_of_getElem? (i := 30) rfl)) (hw _ (List.mem_of_getElem? (i := 22) rfl)) (by decide) (by decide)) (g := (mkF m 45 #[.val (.ref a1), .val (.ref a2), .val (.int (0 : Int32)), .val (.int (2 : Int32)), .val .null, .val (.ref t4)] [(.int (2 : Int32)), (.ref t4), (.ref a1)])) rfl (by rw [hml]; rfl) (argsL := [(.ref t4), (.int (2 : Int32))]) (rest := [(.ref a1)]) (lenOf pd_3_2_1 rfl) rfl (by show 2 * 0 + _ ≤ _; exact Nat.le_of_eq rfl) (hb hby d3_2_45) (fun _ _ => ⟨rfl, rfl, (by decide : 1 + 0 ≤ _), (by decide : 2 + 0 ≤ _)⟩)
  dsimp only [Pt.U, Pt.locs, Pt.cells, Pt.slots] at X6 l6 y6 z6 st6 hQ6
  subst l6 y6 z6
  obtain ⟨rfl, N6q, er6⟩ := hQ6
  have e6 : T6.heap = T4.heap := er6
  have N6 := Fr.app N5w N6q
  refine Goes.via st6 ?_
  show Goes p e below (T6.setTop (mkF m 48 #[.val (.ref a1), .val (.ref a2), .val (.int (0 : Int32)), .val (.int (2 : Int32)), .val .null, .val (.ref t4)] [(.int (0 : Int32)), (.ref a1)])) _
  obtain ⟨T7, h7, X7, e7, W7, st7⟩ := putFN X6 hx hZ hown (hw _ (List.mem_of_getElem? (i := 31) rfl)) Via.refl e6 F4_30 F4_28 (Or.inr ⟨(hw _ (List.mem_of_getElem? (i := 32) rfl)), rfl, hnm⟩) (hw _ (List.mem_of_getElem? (i := 7) rfl)) (ty := .byte) (v' := (.int (0 : Int32))) (by decide) rfl (by decide) (g := (mkF m 48 #[.val (.ref a1), .val (.ref a2), .val (.int (0 : Int32)), .val (.int (2 : Int32)), .val .null, .val (.ref t4)] [(.int (0 : Int32)), (.ref a1)])) rfl rfl (hb hby d3_2_48)
  have Fw7 := F4_30.same W7
  have F7_57 := F4_28.wr W7
  have F7_58 := F4_29.other W7 (Or.inr (slot_ne (Or.inr (hw _ (List.mem_of_getElem? (i := 34) rfl))) (Or.inr (hw _ (List.mem_of_getElem? (i := 32) rfl))) (by decide) (t := (.array .byte)) (t' := .byte) (by decide) (by decide)))
  have F7_59 := F4_31.other W7 (Ne.symm ne12)
  have F7_60 := Vc4.other W7 (Nat.ne_of_gt lt_a1_t4)
  have K7 : Keep h0 h7 [a1] := K4.wr W7 (Or.inl (List.mem_of_getElem? (i := 0) rfl))
  have Z7 : n0 ≤ h7.size := Nat.le_trans Z4 (Keep.of_wr W7).1
  have N7 := Fr.snoc X7 N6 g1
  have O7 := O4.wr W7 g1
  refine Goes.via st7 ?_
  show Goes p e below (T7.setTop (mkF m 51 #[.val (.ref a1), .val (.ref a2), .val (.int (0 : Int32)), .val (.int (2 : Int32)), .val .null, .val (.ref t4)] [])) _
  refine Goes.via (fun t k => XS.aloadN X7.here hx rfl (hb hby d3_2_51) rfl rfl k) ?_
  show Goes p e below (T7.setTop (mkF m 52 #[.val (.ref a1), .val (.ref a2), .val (.int (0 : Int32)), .val (.int (2 : Int32)), .val .null, .val (.ref t4)] [(.ref a1)])) _
  refine Goes.via (fun t k => XS.aload X7.here hx rfl (hb hby d3_2_52) rfl rfl k) ?_
  show Goes p e below (T7.setTop (mkF m 54 #[.val (.ref a1), .val (.ref a2), .val (.int (0 : Int32)), .val (.int (2 : Int32)), .val .null, .val (.ref t4)] [(.ref t4), (.ref a1)])) _
  obtain ⟨T8, h8, X8, e8, W8, st8⟩ := putF X7 hx hZ hown (host := "") (Or.inl (hw _ (List.mem_of_getElem? (i := 33) rfl))) Via.refl e7 F7_58 F7_57 (Or.inr ⟨(hw _ (List.mem_of_getElem? (i := 34) rfl)), rfl, hnm⟩) (hw _ (List.mem_of_getElem? (i := 7) rfl)) (ty := (.array .byte)) (by decide) rfl rfl (g := (mkF m 54 #[.val (.ref a1), .val (.ref a2), .val (.int (0 : Int32)), .val (.int (2 : Int32)), .val .null, .val (.ref t4)] [(.ref t4), (.ref a1)])) rfl rfl (hb hby d3_2_54)
  have Fw8 := F7_58.same W8
  have F8_73 := F7_57.wr W8
  have F8_74 := F7_59.other W8 (Ne.symm ne12)
  have F8_75 := F7_60.other W8 (Nat.ne_of_gt lt_a1_t4)
  have F8_76 := Fw7.other W8 (Or.inr (slot_ne (Or.inr (hw _ (List.mem_of_getElem? (i := 32) rfl))) (Or.inr (hw _ (List.mem_of_getElem? (i := 34) rfl))) (by decide) (t := .byte) (t' := (.array .byte)) (by decide) (by decide)))
  have K8 : Keep h0 h8 [a1] := K7.wr W8 (Or.inl (List.mem_of_getElem? (i := 0) rfl))
  have Z8 : n0 ≤ h8.size := Nat.le_trans Z7 (Keep.of_wr W8).1
  have N8 := Fr.snoc X8 N7 g1
  have O8 := O7.wr W8 g1
  refine Goes.via st8 ?_
  show Goes p e below (T8.setTop (mkF m 57 #[.val (.ref a1), .val (.ref a2), .val (.int (0 : Int32)), .val (.int (2 : Int32)), .val .null, .val (.ref t4)] [])) _
  obtain ⟨fs, hr, hrun, hended, hW, hsame⟩ := X8.leave (v := none) (fun _ => rfl)
  refine ⟨_, _, ?_, hrun, hended, _, _, rfl, ?_, ⟨_, rfl⟩, hW, hsame.mono (by decide) (by decide)⟩
  · exact X8.returnOut hx Bd.returns (hb hby d3_2_57) hr
  · show Q3_2 Z a1 c0 c1 h0 n0 _ T8.heap _
    rw [e8]
    exact ⟨rfl, N8, K8, F8_73, F8_76, t4, _, gt4, sz_t4, Fw8, F8_75⟩
theorem d2_2_0 : decode jdk_42_method_3_code 0 = .ok (.aload_n 0, 1) := by decide +kernel
theorem d2_2_1 : decode jdk_42_method_3_code 1 = .ok (.aload_n 1, 1) := by decide +kernel
theorem d2_2_2 : decode jdk_42_method_3_code 2 = .ok (.iconst 0, 1) := by decide +kernel
theorem d2_2_3 : decode jdk_42_method_3_code 3 = .ok (.aload_n 1, 1) := by decide +kernel
theorem d2_2_4 : decode jdk_42_method_3_code 4 = .ok (.arraylength, 1) := by decide +kernel
theorem d2_2_5 : decode jdk_42_method_3_code 5 = .ok (.aconst_null, 1) := by decide +kernel
theorem d2_2_6 : decode jdk_42_method_3_code 6 = .ok (.invokespecial 27, 3) := by decide +kernel
theorem d2_2_9 : decode jdk_42_method_3_code 9 = .ok (.return_, 1) := by decide +kernel
theorem pn_2_2 : plainName "java/lang/String" = true := by first | (simp [plainName, overriddenIn]; done) | decide +kernel
theorem pd_2_2_0 : parseMethodDescriptor "([CIILjava/lang/Void;)V" = some ⟨[(.array .char), .int, .int, (.object "java/lang/Void")], none⟩ := by decide +kernel
theorem ef_2_2 (m : MethodId) (x0 : Addr) (x1 : Addr) : entryFrame m #[(.ref x0), (.ref x1)] 2 = mkF m 0 #[.val (.ref x0), .val (.ref x1)] [] := by first | (simp [entryFrame, mkF, argsToLocals, Value.category]; done) | rfl
def Q2_2 (Z : State) (a1 : Addr) (c0 c1 : Int32) (h0 : Heap) (n0 : Nat) (v : Option Value) (h : Heap) (L : List Loc) : Prop := v = none ∧ Fr n0 L ∧ Keep h0 h [a1] ∧ Exa Z h a1 "java/lang/String" ∧ Fld Z h a1 "java/lang/String" "coder" "B" (.int (0 : Int32)) ∧ ∃ (t : Addr) (k : ClassId), n0 ≤ t ∧ h0.size ≤ t ∧ Fld Z h a1 "java/lang/String" "value" "[B" (.ref t) ∧ Arv Z h t k .byte (2 : Int32) [(.int (nar .byte (c0.toInt8.toInt32))), (.int (nar .byte (c1.toInt8.toInt32)))] (.int (0 : Int32))
set_option maxRecDepth 65536 in
set_option maxHeartbeats 40000000 in
theorem rm2_2 (l : Launch) (Z : State) (a0 : Array Value) (hw : ∀ d ∈ tables_1, d.before a0 Z = true) (ws : List Jvm.Cond) (a1 : Addr) (a2 : Addr) (k2 : ClassId) (c0 c1 : Int32) (w0 : Int32) (h0 : Heap) (n0 : Nat) (Z0 : n0 ≤ h0.size) (E1 : Exa Z h0 a1 "java/lang/String") (Fv : Fld Z h0 a1 "java/lang/String" "value" "[B" .null) (Fc : Fld Z h0 a1 "java/lang/String" "coder" "B" (.int (0 : Int32))) (V2 : Arv Z h0 a2 k2 .char (2 : Int32) [(.int c0), (.int c1)] (.int (0 : Int32))) (g1 : n0 ≤ a1) (ne12 : a1 ≠ a2) (O0 : Old Z n0 h0) (St : own_St Z w0) (hc0 : ¬ ((255 : Int32) < c0)) (hc1 : ¬ ((255 : Int32) < c1)) :
    MetFree l (⟨"java/lang/String", "<init>", "([C)V"⟩ : MethodName) (head1 (Jvm.Cond.code (⟨"java/lang/String", "<init>", "([C)V"⟩ : MethodName) jdk_42_method_3_code 2 none :: ws) ({ frames := 3, cells := 1, slots := 2, locals := 52 } : Room)) (fun a U => a = #[(.ref a1), (.ref a2)] ∧ Z.Warmed39 U.vm ∧ U.heap = h0) (fun _ _ _ _ _ => True) (fun _ U o U' => ∃ v L, o = .returned v ∧ Q2_2 Z a1 c0 c1 h0 n0 v U'.heap L ∧ FrameEnd U o U' L ({ frames := 3, cells := 1, slots := 2, locals := 52 } : Room).cells ({ frames := 3, cells := 1, slots := 2, locals := 52 } : Room).slots) := by
  refine MetFree.of_bodySF (plainFor_of_name pn_2_2) hisR ?_
  intro p e s m args below meth c s₁ Bd hml0 hP hK
  obtain ⟨rfl, hZ, hh⟩ := hP
  have hx := Bd.exec
  have hby := Bd.bytes
  have hml : c.maxLocals = 2 := hml0
  have hown : s.vm.findClass "java/lang/String" = some m.cls := findClass_of_methodNamed Bd.named
  have hnm := (name_of_methodNamed Bd.named Bd.method).1
  have X0 : Stand p l e ({ frames := 3, cells := 1, slots := 2, locals := 52 } : Room) s m #[(.ref a1), (.ref a2)] below meth c s₁ [] 0 0 := Stand.of_body Bd
  have e0 : s₁.heap = h0 := by rw [← hh, Bd.state]; rfl
  have N0 := Fr.nil n0
  refine Goes.via (next := s₁.setTop (mkF m 0 #[.val (.ref a1), .val (.ref a2)] [])) (fun t k => castTop (ef_2_2 m a1 a2) k) ?_
  refine Goes.via (fun t k => XS.aloadN X0.here hx rfl (hb hby d2_2_0) rfl rfl k) ?_
  show Goes p e below (s₁.setTop (mkF m 1 #[.val (.ref a1), .val (.ref a2)] [(.ref a1)])) _
  refine Goes.via (fun t k => XS.aloadN X0.here hx rfl (hb hby d2_2_1) rfl rfl k) ?_
  show Goes p e below (s₁.setTop (mkF m 2 #[.val (.ref a1), .val (.ref a2)] [(.ref a2), (.ref a1)])) _
  refine Goes.via (fun t k => XS.iconst X0.here hx rfl (hb hby d2_2_2) k) ?_
  show Goes p e below (s₁.setTop (mkF m 3 #[.val (.ref a1), .val (.ref a2)] [(.int (0 : Int32)), (.ref a2), (.ref a1)])) _
  refine Goes.via (fun t k => XS.aloadN X0.here hx rfl (hb hby d2_2_3) rfl rfl k) ?_
  show Goes p e below (s₁.setTop (mkF m 4 #[.val (.ref a1), .val (.ref a2)] [(.ref a2), (.int (0 : Int32)), (.ref a2), (.ref a1)])) _
  obtain ⟨cl1, Ar1, -, Sa1, Na1, -, -⟩ := id V2
  refine Goes.via (next := s₁.setTop (mkF m 5 #[.val (.ref a1), .val (.ref a2)] [(.int (2 : Int32)), (.int (0 : Int32)), (.ref a2), (.ref a1)])) (fun t k => X0.arraylength hx (by rw [e0]; exact Ar1.1) (State.isArrayOf_alike hZ.alike Ar1.2.1) (g := (mkF m 4 #[.val (.ref a1), .val (.ref a2)] [(.ref a2), (.int (0 : Int32)), (.ref a2), (.ref a1)])) rfl rfl (hb hby d2_2_4) _ (by rw [len_of Sa1 Na1]; exact k)) ?_
  show Goes p e below (s₁.setTop (mkF m 5 #[.val (.ref a1), .val (.ref a2)] [(.int (2 : Int32)), (.int (0 : Int32)), (.ref a2), (.ref a1)])) _
  refine Goes.via (fun t k => XS.aconstNull X0.here hx rfl (hb hby d2_2_5) k) ?_
  show Goes p e below (s₁.setTop (mkF m 6 #[.val (.ref a1), .val (.ref a2)] [.null, (.int (2 : Int32)), (.int (0 : Int32)), (.ref a2), (.ref a1)])) _
  obtain ⟨_, _, ⟨T2, L2, k2, n2⟩, -, X2, ⟨Lc2, hQ2, l2, y2, z2⟩, st2⟩ := X0.specialBack hx (y := (⟨"java/lang/String", "<init>", "([CIILjava/lang/Void;)V"⟩ : MethodName)) rfl hown (mvT hZ (hw _ (List.mem_of_getElem? (i := 12) rfl))) (mvT hZ (hw _ (List.mem_of_getElem? (i := 13) rfl))) (mvT hZ (hw _ (List.mem_of_getElem? (i := 15) rfl))) (by decide) (backOf (W := 0) (rm3_2 l Z a0 hw [] a1 a2 k2 c0 c1 w0 h0 n0 Z0 E1 Fv Fc V2 g1 ne12 O0 St hc0 hc1) hZ (hw _ (List.mem_of_getElem? (i := 15) rfl)) (hw _ (List.mem_of_getElem? (i := 8) rfl)) (by decide) (by decide)) (g := (mkF m 6 #[.val (.ref a1), .val (.ref a2)] [.null, (.int (2 : Int32)), (.int (0 : Int32)), (.ref a2), (.ref a1)])) rfl (by rw [hml]; rfl) (Steps.refl _) (a := a1) (argsL := [(.ref a2), (.int (0 : Int32)), (.int (2 : Int32)), .null]) (rest := []) (lenOf pd_2_2_0 rfl) rfl (by show 2 * 0 + _ ≤ _; exact Nat.le_of_eq rfl) (hb hby d2_2_6) (fun _ _ => ⟨rfl, e0, (by decide : 0 + 1 ≤ _), (by decide : 0 + 2 ≤ _)⟩)
  dsimp only [Pt.U, Pt.locs, Pt.cells, Pt.slots] at X2 l2 y2 z2 st2 hQ2
  subst l2 y2 z2
  obtain ⟨rfl, N2q, Kc2, Ec2, Cc2, t2, kt2, gt2, zt2, Vq2, Vc2⟩ := hQ2
  have lt_a1_t2 : a1 < t2 := Nat.lt_of_lt_of_le E1.lt zt2
  have lt_a2_t2 : a2 < t2 := Nat.lt_of_lt_of_le V2.lt zt2
  have sz_t2 : h0.size ≤ t2 := Nat.le_trans (Keep.refl h0 [a1]).1 zt2
  have F2_20 := E1.keep Kc2
  have F2_21 := V2.keep Kc2 (fun q => (Ne.symm ne12) (List.mem_singleton.mp q))
  have K2 : Keep h0 T2.heap [a1] := (Keep.refl h0 [a1]).trans Kc2 (fun x hx => by cases List.mem_singleton.mp hx; exact Or.inl (List.mem_of_getElem? (i := 0) rfl))
  have Z2 : n0 ≤ T2.heap.size := Nat.le_trans Z0 Kc2.1
  have O2 := O0.keep Kc2 (fun x hx => by cases List.mem_singleton.mp hx; exact g1)
  have N2 := Fr.app N0 N2q
  refine Goes.via (fun t k => st2.trans k) ?_
  show Goes p e below (T2.setTop (mkF m 9 #[.val (.ref a1), .val (.ref a2)] [])) _
  obtain ⟨fs, hr, hrun, hended, hW, hsame⟩ := X2.leave (v := none) (fun _ => rfl)
  refine ⟨_, _, ?_, hrun, hended, _, _, rfl, ?_, ⟨_, rfl⟩, hW, hsame.mono (by decide) (by decide)⟩
  · exact X2.returnOut hx Bd.returns (hb hby d2_2_9) hr
  · show Q2_2 Z a1 c0 c1 h0 n0 _ T2.heap _
    exact ⟨rfl, N2, K2, F2_20, Cc2, t2, _, gt2, sz_t2, Vq2, Vc2⟩
theorem d6_u_0 : decode jdk_52_method_21_code 0 = .ok (.iconst 0, 1) := by decide +kernel
theorem d6_u_1 : decode jdk_52_method_21_code 1 = .ok (.istore 5, 2) := by decide +kernel
theorem d6_u_3 : decode jdk_52_method_21_code 3 = .ok (.iload 5, 2) := by decide +kernel
theorem d6_u_5 : decode jdk_52_method_21_code 5 = .ok (.iload 4, 2) := by decide +kernel
theorem d6_u_7 : decode jdk_52_method_21_code 7 = .ok (.if_icmp .ge 37, 3) := by decide +kernel
theorem d6_u_10 : decode jdk_52_method_21_code 10 = .ok (.aload_n 0, 1) := by decide +kernel
theorem d6_u_11 : decode jdk_52_method_21_code 11 = .ok (.iload_n 1, 1) := by decide +kernel
theorem d6_u_12 : decode jdk_52_method_21_code 12 = .ok (.caload, 1) := by decide +kernel
theorem d6_u_13 : decode jdk_52_method_21_code 13 = .ok (.istore 6, 2) := by decide +kernel
theorem d6_u_15 : decode jdk_52_method_21_code 15 = .ok (.iload 6, 2) := by decide +kernel
theorem d6_u_17 : decode jdk_52_method_21_code 17 = .ok (.sipush 255, 3) := by decide +kernel
theorem d6_u_20 : decode jdk_52_method_21_code 20 = .ok (.if_icmp .le 6, 3) := by decide +kernel
theorem d6_u_23 : decode jdk_52_method_21_code 23 = .ok (.iload 5, 2) := by decide +kernel
theorem d6_u_25 : decode jdk_52_method_21_code 25 = .ok (.ireturn, 1) := by decide +kernel
theorem pn_6_u : plainName "java/lang/StringUTF16" = true := by first | (simp [plainName, overriddenIn]; done) | decide +kernel
theorem ef_6_u (m : MethodId) (x0 : Addr) (x2 : Addr) : entryFrame m #[(.ref x0), (.int (0 : Int32)), (.ref x2), (.int (0 : Int32)), (.int (1 : Int32))] 7 = mkF m 0 #[.val (.ref x0), .val (.int (0 : Int32)), .val (.ref x2), .val (.int (0 : Int32)), .val (.int (1 : Int32)), .unset, .unset] [] := by first | (simp [entryFrame, mkF, argsToLocals, Value.category]; done) | rfl
def Q6_u (Z : State) (h0 : Heap) (n0 : Nat) (v : Option Value) (h : Heap) (L : List Loc) : Prop := v = some (.int (0 : Int32)) ∧ Fr n0 L ∧ h = h0
set_option maxRecDepth 65536 in
set_option maxHeartbeats 40000000 in
theorem rm6_u (l : Launch) (Z : State) (a0 : Array Value) (hw : ∀ d ∈ tables_1, d.before a0 Z = true) (ws : List Jvm.Cond) (a1 : Addr) (a2 : Addr) (k1 : ClassId) (c0 : Int32) (h0 : Heap) (n0 : Nat) (Z0 : n0 ≤ h0.size) (V1 : Arv Z h0 a1 k1 .char (1 : Int32) [(.int c0)] (.int (0 : Int32))) (hc0 : (255 : Int32) < c0) :
    MetFree l (⟨"java/lang/StringUTF16", "compress", "([CI[BII)I"⟩ : MethodName) (head1 (Jvm.Cond.code (⟨"java/lang/StringUTF16", "compress", "([CI[BII)I"⟩ : MethodName) jdk_52_method_21_code 7 (some .int) :: ws) ({ frames := 0, cells := 0, slots := 0, locals := 0 } : Room)) (fun a U => a = #[(.ref a1), (.int (0 : Int32)), (.ref a2), (.int (0 : Int32)), (.int (1 : Int32))] ∧ Z.Warmed39 U.vm ∧ U.heap = h0) (fun _ _ _ _ _ => True) (fun _ U o U' => ∃ v L, o = .returned v ∧ Q6_u Z  h0 n0 v U'.heap L ∧ FrameEnd U o U' L ({ frames := 0, cells := 0, slots := 0, locals := 0 } : Room).cells ({ frames := 0, cells := 0, slots := 0, locals := 0 } : Room).slots) := by
  refine MetFree.of_bodySF (plainFor_of_name pn_6_u) hisR ?_
  intro p e s m args below meth c s₁ Bd hml0 hP hK
  obtain ⟨rfl, hZ, hh⟩ := hP
  have hx := Bd.exec
  have hby := Bd.bytes
  have hml : c.maxLocals = 7 := hml0
  have hown : s.vm.findClass "java/lang/StringUTF16" = some m.cls := findClass_of_methodNamed Bd.named
  have hnm := (name_of_methodNamed Bd.named Bd.method).1
  have X0 : Stand p l e ({ frames := 0, cells := 0, slots := 0, locals := 0 } : Room) s m #[(.ref a1), (.int (0 : Int32)), (.ref a2), (.int (0 : Int32)), (.int (1 : Int32))] below meth c s₁ [] 0 0 := Stand.of_body Bd
  have e0 : s₁.heap = h0 := by rw [← hh, Bd.state]; rfl
  have N0 := Fr.nil n0
  refine Goes.via (next := s₁.setTop (mkF m 0 #[.val (.ref a1), .val (.int (0 : Int32)), .val (.ref a2), .val (.int (0 : Int32)), .val (.int (1 : Int32)), .unset, .unset] [])) (fun t k => castTop (ef_6_u m a1 a2) k) ?_
  refine Goes.via (fun t k => XS.iconst X0.here hx rfl (hb hby d6_u_0) k) ?_
  show Goes p e below (s₁.setTop (mkF m 1 #[.val (.ref a1), .val (.int (0 : Int32)), .val (.ref a2), .val (.int (0 : Int32)), .val (.int (1 : Int32)), .unset, .unset] [(.int (0 : Int32))])) _
  refine Goes.via (fun t k => XS.istore X0.here hx rfl (hb hby d6_u_1) rfl (l' := #[.val (.ref a1), .val (.int (0 : Int32)), .val (.ref a2), .val (.int (0 : Int32)), .val (.int (1 : Int32)), .val (.int (0 : Int32)), .unset]) rfl k) ?_
  show Goes p e below (s₁.setTop (mkF m 3 #[.val (.ref a1), .val (.int (0 : Int32)), .val (.ref a2), .val (.int (0 : Int32)), .val (.int (1 : Int32)), .val (.int (0 : Int32)), .unset] [])) _
  refine Goes.via (fun t k => XS.iload X0.here hx rfl (hb hby d6_u_3) rfl k) ?_
  show Goes p e below (s₁.setTop (mkF m 5 #[.val (.ref a1), .val (.int (0 : Int32)), .val (.ref a2), .val (.int (0 : Int32)), .val (.int (1 : Int32)), .val (.int (0 : Int32)), .unset] [(.int (0 : Int32))])) _
  refine Goes.via (fun t k => XS.iload X0.here hx rfl (hb hby d6_u_5) rfl k) ?_
  show Goes p e below (s₁.setTop (mkF m 7 #[.val (.ref a1), .val (.int (0 : Int32)), .val (.ref a2), .val (.int (0 : Int32)), .val (.int (1 : Int32)), .val (.int (0 : Int32)), .unset] [(.int (1 : Int32)), (.int (0 : Int32))])) _
  refine Goes.via (fun t k => XS.icmpNo X0.here hx rfl (hb hby d6_u_7) rfl (tlt (show (0 : Int32) < (1 : Int32) from (by decide))).2.1 k) ?_
  show Goes p e below (s₁.setTop (mkF m 10 #[.val (.ref a1), .val (.int (0 : Int32)), .val (.ref a2), .val (.int (0 : Int32)), .val (.int (1 : Int32)), .val (.int (0 : Int32)), .unset] [])) _
  refine Goes.via (fun t k => XS.aloadN X0.here hx rfl (hb hby d6_u_10) rfl rfl k) ?_
  show Goes p e below (s₁.setTop (mkF m 11 #[.val (.ref a1), .val (.int (0 : Int32)), .val (.ref a2), .val (.int (0 : Int32)), .val (.int (1 : Int32)), .val (.int (0 : Int32)), .unset] [(.ref a1)])) _
  refine Goes.via (fun t k => XS.iloadN X0.here hx rfl (hb hby d6_u_11) rfl k) ?_
  show Goes p e below (s₁.setTop (mkF m 12 #[.val (.ref a1), .val (.int (0 : Int32)), .val (.ref a2), .val (.int (0 : Int32)), .val (.int (1 : Int32)), .val (.int (0 : Int32)), .unset] [(.int (0 : Int32)), (.ref a1)])) _
  obtain ⟨cl1, Ar1, qa1, Sa1, Na1, Ha1, Ga1⟩ := id V1
  have hin1 : ¬ ((0 : Int32) < 0 ∨ cl1.slots.size ≤ ((0 : Int32)).toNatClampNeg) := inb_of Sa1 ⟨by decide, by decide⟩
  have hat1 : cl1.slots[((0 : Int32)).toNatClampNeg]? = some (.int c0) := Ha1.at hin1 rfl
  refine Goes.via (fun t k => X0.caload hx (j := (0 : Int32)) (v := (.int c0)) (by rw [e0]; exact Ar1.1) (State.isArrayOf_alike hZ.alike Ar1.2.1) Ar1.2.2 hin1 hat1 (g := (mkF m 12 #[.val (.ref a1), .val (.int (0 : Int32)), .val (.ref a2), .val (.int (0 : Int32)), .val (.int (1 : Int32)), .val (.int (0 : Int32)), .unset] [(.int (0 : Int32)), (.ref a1)])) rfl rfl (hb hby d6_u_12) _ k) ?_
  show Goes p e below (s₁.setTop (mkF m 13 #[.val (.ref a1), .val (.int (0 : Int32)), .val (.ref a2), .val (.int (0 : Int32)), .val (.int (1 : Int32)), .val (.int (0 : Int32)), .unset] [(.int c0)])) _
  refine Goes.via (fun t k => XS.istore X0.here hx rfl (hb hby d6_u_13) rfl (l' := #[.val (.ref a1), .val (.int (0 : Int32)), .val (.ref a2), .val (.int (0 : Int32)), .val (.int (1 : Int32)), .val (.int (0 : Int32)), .val (.int c0)]) rfl k) ?_
  show Goes p e below (s₁.setTop (mkF m 15 #[.val (.ref a1), .val (.int (0 : Int32)), .val (.ref a2), .val (.int (0 : Int32)), .val (.int (1 : Int32)), .val (.int (0 : Int32)), .val (.int c0)] [])) _
  refine Goes.via (fun t k => XS.iload X0.here hx rfl (hb hby d6_u_15) rfl k) ?_
  show Goes p e below (s₁.setTop (mkF m 17 #[.val (.ref a1), .val (.int (0 : Int32)), .val (.ref a2), .val (.int (0 : Int32)), .val (.int (1 : Int32)), .val (.int (0 : Int32)), .val (.int c0)] [(.int c0)])) _
  refine Goes.via (fun t k => XS.sipush X0.here hx rfl (hb hby d6_u_17) k) ?_
  show Goes p e below (s₁.setTop (mkF m 20 #[.val (.ref a1), .val (.int (0 : Int32)), .val (.ref a2), .val (.int (0 : Int32)), .val (.int (1 : Int32)), .val (.int (0 : Int32)), .val (.int c0)] [(.int (255 : Int32)), (.int c0)])) _
  refine Goes.via (fun t k => XS.icmpNo X0.here hx rfl (hb hby d6_u_20) rfl (tlt hc0).2.2.2 k) ?_
  show Goes p e below (s₁.setTop (mkF m 23 #[.val (.ref a1), .val (.int (0 : Int32)), .val (.ref a2), .val (.int (0 : Int32)), .val (.int (1 : Int32)), .val (.int (0 : Int32)), .val (.int c0)] [])) _
  refine Goes.via (fun t k => XS.iload X0.here hx rfl (hb hby d6_u_23) rfl k) ?_
  show Goes p e below (s₁.setTop (mkF m 25 #[.val (.ref a1), .val (.int (0 : Int32)), .val (.ref a2), .val (.int (0 : Int32)), .val (.int (1 : Int32)), .val (.int (0 : Int32)), .val (.int c0)] [(.int (0 : Int32))])) _
  obtain ⟨fs, hr, hrun, hended, hW, hsame⟩ := X0.leave (v := some (.int (0 : Int32))) (fun h => by rw [Bd.returns] at h; cases h)
  refine ⟨_, _, ?_, hrun, hended, _, _, rfl, ?_, ⟨_, rfl⟩, hW, hsame.mono (by decide) (by decide)⟩
  · exact retI X0 hx Bd.returns (hb hby d6_u_25) hr
  · show Q6_u Z  h0 n0 _ s₁.heap _
    rw [e0]
    exact ⟨rfl, N0, rfl⟩
theorem d13_0 : decode jdk_52_method_3_code 0 = .ok (.iload_n 0, 1) := by decide +kernel
theorem d13_1 : decode jdk_52_method_3_code 1 = .ok (.ifCond .ge 11, 3) := by decide +kernel
theorem d13_12 : decode jdk_52_method_3_code 12 = .ok (.iload_n 0, 1) := by decide +kernel
theorem d13_13 : decode jdk_52_method_3_code 13 = .ok (.ldc 20, 2) := by decide +kernel
theorem d13_15 : decode jdk_52_method_3_code 15 = .ok (.if_icmp .lt 40, 3) := by decide +kernel
theorem d13_55 : decode jdk_52_method_3_code 55 = .ok (.iload_n 0, 1) := by decide +kernel
theorem d13_56 : decode jdk_52_method_3_code 56 = .ok (.iconst 1, 1) := by decide +kernel
theorem d13_57 : decode jdk_52_method_3_code 57 = .ok (.ishl, 1) := by decide +kernel
theorem d13_58 : decode jdk_52_method_3_code 58 = .ok (.ireturn, 1) := by decide +kernel
theorem pn_13 : plainName "java/lang/StringUTF16" = true := by first | (simp [plainName, overriddenIn]; done) | decide +kernel
theorem ef_13 (m : MethodId)  : entryFrame m #[(.int (1 : Int32))] 1 = mkF m 0 #[.val (.int (1 : Int32))] [] := by first | (simp [entryFrame, mkF, argsToLocals, Value.category]; done) | rfl
def Q13 (Z : State) (h0 : Heap) (n0 : Nat) (v : Option Value) (h : Heap) (L : List Loc) : Prop := v = some (.int (2 : Int32)) ∧ Fr n0 L ∧ h = h0
set_option maxRecDepth 65536 in
set_option maxHeartbeats 40000000 in
theorem rm13 (l : Launch) (Z : State) (a0 : Array Value) (hw : ∀ d ∈ tables_1, d.before a0 Z = true) (ws : List Jvm.Cond)  (h0 : Heap) (n0 : Nat) (Z0 : n0 ≤ h0.size) :
    MetFree l (⟨"java/lang/StringUTF16", "newBytesLength", "(I)I"⟩ : MethodName) (head1 (Jvm.Cond.code (⟨"java/lang/StringUTF16", "newBytesLength", "(I)I"⟩ : MethodName) jdk_52_method_3_code 1 (some .int) :: ws) ({ frames := 0, cells := 0, slots := 0, locals := 0 } : Room)) (fun a U => a = #[(.int (1 : Int32))] ∧ Z.Warmed39 U.vm ∧ U.heap = h0) (fun _ _ _ _ _ => True) (fun _ U o U' => ∃ v L, o = .returned v ∧ Q13 Z  h0 n0 v U'.heap L ∧ FrameEnd U o U' L ({ frames := 0, cells := 0, slots := 0, locals := 0 } : Room).cells ({ frames := 0, cells := 0, slots := 0, locals := 0 } : Room).slots) := by
  refine MetFree.of_bodySF (plainFor_of_name pn_13) hisR ?_
  intro p e s m args below meth c s₁ Bd hml0 hP hK
  obtain ⟨rfl, hZ, hh⟩ := hP
  have hx := Bd.exec
  have hby := Bd.bytes
  have hml : c.maxLocals = 1 := hml0
  have hown : s.vm.findClass "java/lang/StringUTF16" = some m.cls := findClass_of_methodNamed Bd.named
  have hnm := (name_of_methodNamed Bd.named Bd.method).1
  have X0 : Stand p l e ({ frames := 0, cells := 0, slots := 0, locals := 0 } : Room) s m #[(.int (1 : Int32))] below meth c s₁ [] 0 0 := Stand.of_body Bd
  have e0 : s₁.heap = h0 := by rw [← hh, Bd.state]; rfl
  have N0 := Fr.nil n0
  refine Goes.via (next := s₁.setTop (mkF m 0 #[.val (.int (1 : Int32))] [])) (fun t k => castTop (ef_13 m ) k) ?_
  refine Goes.via (fun t k => XS.iloadN X0.here hx rfl (hb hby d13_0) rfl k) ?_
  show Goes p e below (s₁.setTop (mkF m 1 #[.val (.int (1 : Int32))] [(.int (1 : Int32))])) _
  refine Goes.via (fun t k => XS.ifYes X0.here hx rfl (pc0 := 1) (pc' := 12) rfl (hb hby d13_1) rfl ((if0 _ _).trans (flt (show ¬ ((1 : Int32) < (0 : Int32)) from (by decide))).2.1) (by decide) (by decide) k) ?_
  show Goes p e below (s₁.setTop (mkF m 12 #[.val (.int (1 : Int32))] [])) _
  refine Goes.via (fun t k => XS.iloadN X0.here hx rfl (hb hby d13_12) rfl k) ?_
  show Goes p e below (s₁.setTop (mkF m 13 #[.val (.int (1 : Int32))] [(.int (1 : Int32))])) _
  refine Goes.via (fun t k => X0.ldcInt hx hown (mvT hZ (hw _ (List.mem_of_getElem? (i := 71) rfl))) (g := (mkF m 13 #[.val (.int (1 : Int32))] [(.int (1 : Int32))])) rfl (hb hby d13_13) _ k) ?_
  show Goes p e below (s₁.setTop (mkF m 15 #[.val (.int (1 : Int32))] [(.int (1073741823 : Int32)), (.int (1 : Int32))])) _
  refine Goes.via (fun t k => XS.icmpYes X0.here hx rfl (pc0 := 15) (pc' := 55) rfl (hb hby d13_15) rfl (tlt (show (1 : Int32) < (1073741823 : Int32) from (by decide))).1 (by decide) (by decide) k) ?_
  show Goes p e below (s₁.setTop (mkF m 55 #[.val (.int (1 : Int32))] [])) _
  refine Goes.via (fun t k => XS.iloadN X0.here hx rfl (hb hby d13_55) rfl k) ?_
  show Goes p e below (s₁.setTop (mkF m 56 #[.val (.int (1 : Int32))] [(.int (1 : Int32))])) _
  refine Goes.via (fun t k => XS.iconst X0.here hx rfl (hb hby d13_56) k) ?_
  show Goes p e below (s₁.setTop (mkF m 57 #[.val (.int (1 : Int32))] [(.int (1 : Int32)), (.int (1 : Int32))])) _
  refine Goes.via (fun t k => XS.ishl X0.here hx rfl (hb hby d13_57) rfl k) ?_
  show Goes p e below (s₁.setTop (mkF m 58 #[.val (.int (1 : Int32))] [(.int (2 : Int32))])) _
  obtain ⟨fs, hr, hrun, hended, hW, hsame⟩ := X0.leave (v := some (.int (2 : Int32))) (fun h => by rw [Bd.returns] at h; cases h)
  refine ⟨_, _, ?_, hrun, hended, _, _, rfl, ?_, ⟨_, rfl⟩, hW, hsame.mono (by decide) (by decide)⟩
  · exact retI X0 hx Bd.returns (hb hby d13_58) hr
  · show Q13 Z  h0 n0 _ s₁.heap _
    rw [e0]
    exact ⟨rfl, N0, rfl⟩
theorem d12_0 : decode jdk_52_method_2_code 0 = .ok (.iload_n 0, 1) := by decide +kernel
theorem d12_1 : decode jdk_52_method_2_code 1 = .ok (.invokestatic 11, 3) := by decide +kernel
theorem d12_4 : decode jdk_52_method_2_code 4 = .ok (.newarray .byte, 2) := by decide +kernel
theorem d12_6 : decode jdk_52_method_2_code 6 = .ok (.areturn, 1) := by decide +kernel
theorem pn_12 : plainName "java/lang/StringUTF16" = true := by first | (simp [plainName, overriddenIn]; done) | decide +kernel
theorem pd_12_0 : parseMethodDescriptor "(I)I" = some ⟨[.int], some .int⟩ := by decide +kernel
theorem ef_12 (m : MethodId)  : entryFrame m #[(.int (1 : Int32))] 1 = mkF m 0 #[.val (.int (1 : Int32))] [] := by first | (simp [entryFrame, mkF, argsToLocals, Value.category]; done) | rfl
def Q12 (Z : State) (h0 : Heap) (n0 : Nat) (v : Option Value) (h : Heap) (L : List Loc) : Prop := ∃ (t : Addr) (k : ClassId), v = some (.ref t) ∧ Fr n0 L ∧ n0 ≤ t ∧ h0.size ≤ t ∧ Keep h0 h [] ∧ Arv Z h t k .byte (2 : Int32) [(.int (0 : Int32)), (.int (0 : Int32))] (.int (0 : Int32))
set_option maxRecDepth 65536 in
set_option maxHeartbeats 40000000 in
theorem rm12 (l : Launch) (Z : State) (a0 : Array Value) (hw : ∀ d ∈ tables_1, d.before a0 Z = true) (ws : List Jvm.Cond)  (h0 : Heap) (n0 : Nat) (Z0 : n0 ≤ h0.size) :
    MetFree l (⟨"java/lang/StringUTF16", "newBytesFor", "(I)[B"⟩ : MethodName) (head1 (Jvm.Cond.code (⟨"java/lang/StringUTF16", "newBytesFor", "(I)[B"⟩ : MethodName) jdk_52_method_2_code 1 (some (.array .byte)) :: ws) ({ frames := 1, cells := 1, slots := 2, locals := 12 } : Room)) (fun a U => a = #[(.int (1 : Int32))] ∧ Z.Warmed39 U.vm ∧ U.heap = h0) (fun _ _ _ _ _ => True) (fun _ U o U' => ∃ v L, o = .returned v ∧ Q12 Z  h0 n0 v U'.heap L ∧ FrameEnd U o U' L ({ frames := 1, cells := 1, slots := 2, locals := 12 } : Room).cells ({ frames := 1, cells := 1, slots := 2, locals := 12 } : Room).slots) := by
  refine MetFree.of_bodySF (plainFor_of_name pn_12) hisR ?_
  intro p e s m args below meth c s₁ Bd hml0 hP hK
  obtain ⟨rfl, hZ, hh⟩ := hP
  have hx := Bd.exec
  have hby := Bd.bytes
  have hml : c.maxLocals = 1 := hml0
  have hown : s.vm.findClass "java/lang/StringUTF16" = some m.cls := findClass_of_methodNamed Bd.named
  have hnm := (name_of_methodNamed Bd.named Bd.method).1
  have X0 : Stand p l e ({ frames := 1, cells := 1, slots := 2, locals := 12 } : Room) s m #[(.int (1 : Int32))] below meth c s₁ [] 0 0 := Stand.of_body Bd
  have e0 : s₁.heap = h0 := by rw [← hh, Bd.state]; rfl
  have N0 := Fr.nil n0
  refine Goes.via (next := s₁.setTop (mkF m 0 #[.val (.int (1 : Int32))] [])) (fun t k => castTop (ef_12 m ) k) ?_
  refine Goes.via (fun t k => XS.iloadN X0.here hx rfl (hb hby d12_0) rfl k) ?_
  show Goes p e below (s₁.setTop (mkF m 1 #[.val (.int (1 : Int32))] [(.int (1 : Int32))])) _
  obtain ⟨_, _, ⟨T1, L1, k1, n1⟩, -, X1, ⟨Lc1, hQ1, l1, y1, z1⟩, st1⟩ := Jvm.LawKit.callS X0 hx (y := (⟨"java/lang/StringUTF16", "newBytesLength", "(I)I"⟩ : MethodName)) hown (mvT hZ (hw _ (List.mem_of_getElem? (i := 68) rfl))) (mvT hZ (hw _ (List.mem_of_getElem? (i := 69) rfl))) (mvT hZ (hw _ (List.mem_of_getElem? (i := 22) rfl))) (mvT hZ (hw _ (List.mem_of_getElem? (i := 70) rfl))) (by decide) (backOf (W := 0) (rm13 l Z a0 hw []   h0 n0 Z0 ) hZ (hw _ (List.mem_of_getElem? (i := 70) rfl)) (hw _ (List.mem_of_getElem? (i := 22) rfl)) (by decide) (by decide)) (g := (mkF m 1 #[.val (.int (1 : Int32))] [(.int (1 : Int32))])) rfl (by rw [hml]; rfl) (argsL := [(.int (1 : Int32))]) (rest := []) (lenOf pd_12_0 rfl) rfl (by show 2 * 0 + _ ≤ _; exact Nat.le_of_eq rfl) (hb hby d12_1) (fun _ _ => ⟨rfl, e0, (by decide : 0 + 0 ≤ _), (by decide : 0 + 0 ≤ _)⟩)
  dsimp only [Pt.U, Pt.locs, Pt.cells, Pt.slots] at X1 l1 y1 z1 st1 hQ1
  subst l1 y1 z1
  obtain ⟨rfl, N1q, er1⟩ := hQ1
  have e1 : T1.heap = h0 := er1
  have N1 := Fr.app N0 N1q
  refine Goes.via st1 ?_
  show Goes p e below (T1.setTop (mkF m 4 #[.val (.int (1 : Int32))] [(.int (2 : Int32))])) _
  obtain ⟨T2, h2, ka2, X2, e2, E2, A2, st2⟩ := newP X1 hx hZ (hw _ (List.mem_of_getElem? (i := 24) rfl)) e1 (g := (mkF m 4 #[.val (.int (1 : Int32))] [(.int (2 : Int32))])) rfl (hb hby d12_4) rfl (by decide) (cap := 2) (by decide) (by decide) (by decide) (by decide)
  obtain ⟨b2, g2⟩ : ∃ z, z = h0.size := ⟨_, rfl⟩
  rw [← g2] at A2 st2
  have ge_b2 : n0 ≤ b2 := Nat.le_trans Z0 (Nat.le_of_eq g2.symm)
  have sz_b2 : h0.size ≤ b2 := Nat.le_trans (Keep.refl h0 []).1 (Nat.le_of_eq g2.symm)
  have K2 : Keep h0 h2 [] := (Keep.refl h0 []).ext E2
  have Z2 : n0 ≤ h2.size := Nat.le_trans Z0 E2.1
  have V2 : Arv Z h2 b2 ka2 .byte (2 : Int32) [(.int (0 : Int32)), (.int (0 : Int32))] (.int (0 : Int32)) := (Arv.new A2 (by decide)).pad (pad_rep [] (.int (0 : Int32)) 2)
  refine Goes.via st2 ?_
  show Goes p e below (T2.setTop (mkF m 6 #[.val (.int (1 : Int32))] [(.ref b2)])) _
  obtain ⟨fs, hr, hrun, hended, hW, hsame⟩ := X2.leave (v := some (.ref b2)) (fun h => by rw [Bd.returns] at h; cases h)
  refine ⟨_, _, ?_, hrun, hended, _, _, rfl, ?_, ⟨_, rfl⟩, hW, hsame.mono (by decide) (by decide)⟩
  · exact retOut X2 hx (t := (.array .byte)) Bd.returns rfl (Or.inr (Or.inr (Or.inr (Or.inr ⟨rfl, rfl, rfl⟩)))) (hb hby d12_6) hr
  · show Q12 Z  h0 n0 _ T2.heap _
    rw [e2]
    exact ⟨b2, _, rfl, N1, ge_b2, sz_b2, K2, V2⟩
theorem d14_0 : decode jdk_52_method_4_code 0 = .ok (.getstatic 44, 3) := by decide +kernel
theorem d14_3 : decode jdk_52_method_4_code 3 = .ok (.ifCond .ne 25, 3) := by decide +kernel
theorem d14_28 : decode jdk_52_method_4_code 28 = .ok (.iload_n 1, 1) := by decide +kernel
theorem d14_29 : decode jdk_52_method_4_code 29 = .ok (.iconst 1, 1) := by decide +kernel
theorem d14_30 : decode jdk_52_method_4_code 30 = .ok (.ishl, 1) := by decide +kernel
theorem d14_31 : decode jdk_52_method_4_code 31 = .ok (.istore_n 1, 1) := by decide +kernel
theorem d14_32 : decode jdk_52_method_4_code 32 = .ok (.aload_n 0, 1) := by decide +kernel
theorem d14_33 : decode jdk_52_method_4_code 33 = .ok (.iload_n 1, 1) := by decide +kernel
theorem d14_34 : decode jdk_52_method_4_code 34 = .ok (.iinc 1 1, 3) := by decide +kernel
theorem d14_37 : decode jdk_52_method_4_code 37 = .ok (.iload_n 2, 1) := by decide +kernel
theorem d14_38 : decode jdk_52_method_4_code 38 = .ok (.getstatic 59, 3) := by decide +kernel
theorem d14_41 : decode jdk_52_method_4_code 41 = .ok (.ishr, 1) := by decide +kernel
theorem d14_42 : decode jdk_52_method_4_code 42 = .ok (.i2b, 1) := by decide +kernel
theorem d14_43 : decode jdk_52_method_4_code 43 = .ok (.bastore, 1) := by decide +kernel
theorem d14_44 : decode jdk_52_method_4_code 44 = .ok (.aload_n 0, 1) := by decide +kernel
theorem d14_45 : decode jdk_52_method_4_code 45 = .ok (.iload_n 1, 1) := by decide +kernel
theorem d14_46 : decode jdk_52_method_4_code 46 = .ok (.iload_n 2, 1) := by decide +kernel
theorem d14_47 : decode jdk_52_method_4_code 47 = .ok (.getstatic 63, 3) := by decide +kernel
theorem d14_50 : decode jdk_52_method_4_code 50 = .ok (.ishr, 1) := by decide +kernel
theorem d14_51 : decode jdk_52_method_4_code 51 = .ok (.i2b, 1) := by decide +kernel
theorem d14_52 : decode jdk_52_method_4_code 52 = .ok (.bastore, 1) := by decide +kernel
theorem d14_53 : decode jdk_52_method_4_code 53 = .ok (.return_, 1) := by decide +kernel
theorem pn_14 : plainName "java/lang/StringUTF16" = true := by first | (simp [plainName, overriddenIn]; done) | decide +kernel
theorem ef_14 (m : MethodId) (x0 : Addr) (x2 : Int32) : entryFrame m #[(.ref x0), (.int (0 : Int32)), (.int x2)] 3 = mkF m 0 #[.val (.ref x0), .val (.int (0 : Int32)), .val (.int x2)] [] := by first | (simp [entryFrame, mkF, argsToLocals, Value.category]; done) | rfl
def Q14 (Z : State) (a1 : Addr) (c0 : Int32) (k1 : ClassId) (h0 : Heap) (n0 : Nat) (v : Option Value) (h : Heap) (L : List Loc) : Prop := v = none ∧ Fr n0 L ∧ Keep h0 h [a1] ∧ Arv Z h a1 k1 .byte (2 : Int32) [(.int (nar .byte ((c0 >>> ((0 : Int32) &&& 31)).toInt8.toInt32))), (.int (nar .byte ((c0 >>> ((8 : Int32) &&& 31)).toInt8.toInt32)))] (.int (0 : Int32))
set_option maxRecDepth 65536 in
set_option maxHeartbeats 40000000 in
theorem rm14 (l : Launch) (Z : State) (a0 : Array Value) (hw : ∀ d ∈ tables_1, d.before a0 Z = true) (ws : List Jvm.Cond) (a1 : Addr) (c0 : Int32) (k1 : ClassId) (w0 : Int32) (h0 : Heap) (n0 : Nat) (Z0 : n0 ≤ h0.size) (V1 : Arv Z h0 a1 k1 .byte (2 : Int32) [(.int (0 : Int32)), (.int (0 : Int32))] (.int (0 : Int32))) (g1 : n0 ≤ a1) (O0 : Old Z n0 h0) (St : own_St Z w0) :
    MetFree l (⟨"java/lang/StringUTF16", "putChar", "([BII)V"⟩ : MethodName) (head1 (Jvm.Cond.code (⟨"java/lang/StringUTF16", "putChar", "([BII)V"⟩ : MethodName) jdk_52_method_4_code 3 none :: ws) ({ frames := 0, cells := 0, slots := 0, locals := 0 } : Room)) (fun a U => a = #[(.ref a1), (.int (0 : Int32)), (.int c0)] ∧ Z.Warmed39 U.vm ∧ U.heap = h0) (fun _ _ _ _ _ => True) (fun _ U o U' => ∃ v L, o = .returned v ∧ Q14 Z a1 c0 k1 h0 n0 v U'.heap L ∧ FrameEnd U o U' L ({ frames := 0, cells := 0, slots := 0, locals := 0 } : Room).cells ({ frames := 0, cells := 0, slots := 0, locals := 0 } : Room).slots) := by
  refine MetFree.of_bodySF (plainFor_of_name pn_14) hisR ?_
  intro p e s m args below meth c s₁ Bd hml0 hP hK
  obtain ⟨rfl, hZ, hh⟩ := hP
  have hx := Bd.exec
  have hby := Bd.bytes
  have hml : c.maxLocals = 3 := hml0
  have hown : s.vm.findClass "java/lang/StringUTF16" = some m.cls := findClass_of_methodNamed Bd.named
  have hnm := (name_of_methodNamed Bd.named Bd.method).1
  have X0 : Stand p l e ({ frames := 0, cells := 0, slots := 0, locals := 0 } : Room) s m #[(.ref a1), (.int (0 : Int32)), (.int c0)] below meth c s₁ [] 0 0 := Stand.of_body Bd
  have e0 : s₁.heap = h0 := by rw [← hh, Bd.state]; rfl
  have N0 := Fr.nil n0
  refine Goes.via (next := s₁.setTop (mkF m 0 #[.val (.ref a1), .val (.int (0 : Int32)), .val (.int c0)] [])) (fun t k => castTop (ef_14 m a1 c0) k) ?_
  obtain ⟨T1, X1, e1, st1⟩ := getS2 X0 hx hZ hown (host := "") (Or.inl (hw _ (List.mem_of_getElem? (i := 75) rfl))) Via.refl e0 (St.2.2.1.ext O0.2) (g := (mkF m 0 #[.val (.ref a1), .val (.int (0 : Int32)), .val (.int c0)] [])) rfl (hb hby d14_0)
  refine Goes.via st1 ?_
  show Goes p e below (T1.setTop (mkF m 3 #[.val (.ref a1), .val (.int (0 : Int32)), .val (.int c0)] [(.int (1 : Int32))])) _
  refine Goes.via (fun t k => XS.ifYes X1.here hx rfl (pc0 := 3) (pc' := 28) rfl (hb hby d14_3) rfl ((if0 _ _).trans (feq (show ¬ ((1 : Int32) = (0 : Int32)) from (by decide))).2) (by decide) (by decide) k) ?_
  show Goes p e below (T1.setTop (mkF m 28 #[.val (.ref a1), .val (.int (0 : Int32)), .val (.int c0)] [])) _
  refine Goes.via (fun t k => XS.iloadN X1.here hx rfl (hb hby d14_28) rfl k) ?_
  show Goes p e below (T1.setTop (mkF m 29 #[.val (.ref a1), .val (.int (0 : Int32)), .val (.int c0)] [(.int (0 : Int32))])) _
  refine Goes.via (fun t k => XS.iconst X1.here hx rfl (hb hby d14_29) k) ?_
  show Goes p e below (T1.setTop (mkF m 30 #[.val (.ref a1), .val (.int (0 : Int32)), .val (.int c0)] [(.int (1 : Int32)), (.int (0 : Int32))])) _
  refine Goes.via (fun t k => XS.ishl X1.here hx rfl (hb hby d14_30) rfl k) ?_
  show Goes p e below (T1.setTop (mkF m 31 #[.val (.ref a1), .val (.int (0 : Int32)), .val (.int c0)] [(.int (0 : Int32))])) _
  refine Goes.via (fun t k => XS.istoreN X1.here hx rfl (hb hby d14_31) rfl (l' := #[.val (.ref a1), .val (.int (0 : Int32)), .val (.int c0)]) rfl k) ?_
  show Goes p e below (T1.setTop (mkF m 32 #[.val (.ref a1), .val (.int (0 : Int32)), .val (.int c0)] [])) _
  refine Goes.via (fun t k => XS.aloadN X1.here hx rfl (hb hby d14_32) rfl rfl k) ?_
  show Goes p e below (T1.setTop (mkF m 33 #[.val (.ref a1), .val (.int (0 : Int32)), .val (.int c0)] [(.ref a1)])) _
  refine Goes.via (fun t k => XS.iloadN X1.here hx rfl (hb hby d14_33) rfl k) ?_
  show Goes p e below (T1.setTop (mkF m 34 #[.val (.ref a1), .val (.int (0 : Int32)), .val (.int c0)] [(.int (0 : Int32)), (.ref a1)])) _
  refine Goes.via (fun t k => XS.iinc X1.here hx rfl (hb hby d14_34) rfl (l' := #[.val (.ref a1), .val (.int (1 : Int32)), .val (.int c0)]) rfl k) ?_
  show Goes p e below (T1.setTop (mkF m 37 #[.val (.ref a1), .val (.int (1 : Int32)), .val (.int c0)] [(.int (0 : Int32)), (.ref a1)])) _
  refine Goes.via (fun t k => XS.iloadN X1.here hx rfl (hb hby d14_37) rfl k) ?_
  show Goes p e below (T1.setTop (mkF m 38 #[.val (.ref a1), .val (.int (1 : Int32)), .val (.int c0)] [(.int c0), (.int (0 : Int32)), (.ref a1)])) _
  obtain ⟨T2, X2, e2, st2⟩ := getS2 X1 hx hZ hown (host := "") (Or.inl (hw _ (List.mem_of_getElem? (i := 76) rfl))) Via.refl e1 (St.2.2.2.1.ext O0.2) (g := (mkF m 38 #[.val (.ref a1), .val (.int (1 : Int32)), .val (.int c0)] [(.int c0), (.int (0 : Int32)), (.ref a1)])) rfl (hb hby d14_38)
  refine Goes.via st2 ?_
  show Goes p e below (T2.setTop (mkF m 41 #[.val (.ref a1), .val (.int (1 : Int32)), .val (.int c0)] [(.int (0 : Int32)), (.int c0), (.int (0 : Int32)), (.ref a1)])) _
  refine Goes.via (fun t k => XS.ishr X2.here hx rfl (hb hby d14_41) rfl k) ?_
  show Goes p e below (T2.setTop (mkF m 42 #[.val (.ref a1), .val (.int (1 : Int32)), .val (.int c0)] [(.int (c0 >>> ((0 : Int32) &&& 31))), (.int (0 : Int32)), (.ref a1)])) _
  refine Goes.via (fun t k => XS.i2b X2.here hx rfl (hb hby d14_42) rfl k) ?_
  show Goes p e below (T2.setTop (mkF m 43 #[.val (.ref a1), .val (.int (1 : Int32)), .val (.int c0)] [(.int ((c0 >>> ((0 : Int32) &&& 31)).toInt8.toInt32)), (.int (0 : Int32)), (.ref a1)])) _
  obtain ⟨cl3, Ar3, qa3, Sa3, Na3, Ha3, Ga3⟩ := V1
  have hin3 : ¬ ((0 : Int32) < 0 ∨ cl3.slots.size ≤ ((0 : Int32)).toNatClampNeg) := inb_of Sa3 ⟨by decide, by decide⟩
  obtain ⟨T3, h3, X3, e3, W3, st3⟩ := stB X2 hx hZ e2 Ar3 (j := (0 : Int32)) hin3 (g := (mkF m 43 #[.val (.ref a1), .val (.int (1 : Int32)), .val (.int c0)] [(.int ((c0 >>> ((0 : Int32) &&& 31)).toInt8.toInt32)), (.int (0 : Int32)), (.ref a1)])) rfl rfl (hb hby d14_43)
  have V3 : Arv Z h3 a1 k1 .byte (2 : Int32) [(.int (nar .byte ((c0 >>> ((0 : Int32) &&& 31)).toInt8.toInt32))), (.int (0 : Int32))] (.int (0 : Int32)) := Arv.set Ar3 qa3 Sa3 Na3 Ha3 Ga3 (fits_nar_byte _) W3 0 rfl (Nat.le_of_ble_eq_true rfl)
  have K3 : Keep h0 h3 [a1] := (Keep.refl h0 [a1]).wr W3 (Or.inl (List.mem_of_getElem? (i := 0) rfl))
  have Z3 : n0 ≤ h3.size := Nat.le_trans Z0 (Keep.of_wr W3).1
  have N3 := Fr.snoc X3 N0 g1
  have O3 := O0.wr W3 g1
  refine Goes.via st3 ?_
  show Goes p e below (T3.setTop (mkF m 44 #[.val (.ref a1), .val (.int (1 : Int32)), .val (.int c0)] [])) _
  refine Goes.via (fun t k => XS.aloadN X3.here hx rfl (hb hby d14_44) rfl rfl k) ?_
  show Goes p e below (T3.setTop (mkF m 45 #[.val (.ref a1), .val (.int (1 : Int32)), .val (.int c0)] [(.ref a1)])) _
  refine Goes.via (fun t k => XS.iloadN X3.here hx rfl (hb hby d14_45) rfl k) ?_
  show Goes p e below (T3.setTop (mkF m 46 #[.val (.ref a1), .val (.int (1 : Int32)), .val (.int c0)] [(.int (1 : Int32)), (.ref a1)])) _
  refine Goes.via (fun t k => XS.iloadN X3.here hx rfl (hb hby d14_46) rfl k) ?_
  show Goes p e below (T3.setTop (mkF m 47 #[.val (.ref a1), .val (.int (1 : Int32)), .val (.int c0)] [(.int c0), (.int (1 : Int32)), (.ref a1)])) _
  obtain ⟨T4, X4, e4, st4⟩ := getS2 X3 hx hZ hown (host := "") (Or.inl (hw _ (List.mem_of_getElem? (i := 77) rfl))) Via.refl e3 (St.2.2.2.2.ext O3.2) (g := (mkF m 47 #[.val (.ref a1), .val (.int (1 : Int32)), .val (.int c0)] [(.int c0), (.int (1 : Int32)), (.ref a1)])) rfl (hb hby d14_47)
  refine Goes.via st4 ?_
  show Goes p e below (T4.setTop (mkF m 50 #[.val (.ref a1), .val (.int (1 : Int32)), .val (.int c0)] [(.int (8 : Int32)), (.int c0), (.int (1 : Int32)), (.ref a1)])) _
  refine Goes.via (fun t k => XS.ishr X4.here hx rfl (hb hby d14_50) rfl k) ?_
  show Goes p e below (T4.setTop (mkF m 51 #[.val (.ref a1), .val (.int (1 : Int32)), .val (.int c0)] [(.int (c0 >>> ((8 : Int32) &&& 31))), (.int (1 : Int32)), (.ref a1)])) _
  refine Goes.via (fun t k => XS.i2b X4.here hx rfl (hb hby d14_51) rfl k) ?_
  show Goes p e below (T4.setTop (mkF m 52 #[.val (.ref a1), .val (.int (1 : Int32)), .val (.int c0)] [(.int ((c0 >>> ((8 : Int32) &&& 31)).toInt8.toInt32)), (.int (1 : Int32)), (.ref a1)])) _
  obtain ⟨cl5, Ar5, qa5, Sa5, Na5, Ha5, Ga5⟩ := V3
  have hin5 : ¬ ((1 : Int32) < 0 ∨ cl5.slots.size ≤ ((1 : Int32)).toNatClampNeg) := inb_of Sa5 ⟨by decide, by decide⟩
  obtain ⟨T5, h5, X5, e5, W5, st5⟩ := stB X4 hx hZ e4 Ar5 (j := (1 : Int32)) hin5 (g := (mkF m 52 #[.val (.ref a1), .val (.int (1 : Int32)), .val (.int c0)] [(.int ((c0 >>> ((8 : Int32) &&& 31)).toInt8.toInt32)), (.int (1 : Int32)), (.ref a1)])) rfl rfl (hb hby d14_52)
  have V5 : Arv Z h5 a1 k1 .byte (2 : Int32) [(.int (nar .byte ((c0 >>> ((0 : Int32) &&& 31)).toInt8.toInt32))), (.int (nar .byte ((c0 >>> ((8 : Int32) &&& 31)).toInt8.toInt32)))] (.int (0 : Int32)) := Arv.set Ar5 qa5 Sa5 Na5 Ha5 Ga5 (fits_nar_byte _) W5 1 rfl (Nat.le_of_ble_eq_true rfl)
  have K5 : Keep h0 h5 [a1] := K3.wr W5 (Or.inl (List.mem_of_getElem? (i := 0) rfl))
  have Z5 : n0 ≤ h5.size := Nat.le_trans Z3 (Keep.of_wr W5).1
  have N5 := Fr.snoc X5 N3 g1
  have O5 := O3.wr W5 g1
  refine Goes.via st5 ?_
  show Goes p e below (T5.setTop (mkF m 53 #[.val (.ref a1), .val (.int (1 : Int32)), .val (.int c0)] [])) _
  obtain ⟨fs, hr, hrun, hended, hW, hsame⟩ := X5.leave (v := none) (fun _ => rfl)
  refine ⟨_, _, ?_, hrun, hended, _, _, rfl, ?_, ⟨_, rfl⟩, hW, hsame.mono (by decide) (by decide)⟩
  · exact X5.returnOut hx Bd.returns (hb hby d14_53) hr
  · show Q14 Z a1 c0 k1 h0 n0 _ T5.heap _
    rw [e5]
    exact ⟨rfl, N5, K5, V5⟩
theorem d11_0 : decode jdk_52_method_14_code 0 = .ok (.iload_n 2, 1) := by decide +kernel
theorem d11_1 : decode jdk_52_method_14_code 1 = .ok (.invokestatic 107, 3) := by decide +kernel
theorem d11_4 : decode jdk_52_method_14_code 4 = .ok (.astore_n 3, 1) := by decide +kernel
theorem d11_5 : decode jdk_52_method_14_code 5 = .ok (.iconst 0, 1) := by decide +kernel
theorem d11_6 : decode jdk_52_method_14_code 6 = .ok (.istore 4, 2) := by decide +kernel
theorem d11_8 : decode jdk_52_method_14_code 8 = .ok (.iload 4, 2) := by decide +kernel
theorem d11_10 : decode jdk_52_method_14_code 10 = .ok (.iload_n 2, 1) := by decide +kernel
theorem d11_11 : decode jdk_52_method_14_code 11 = .ok (.if_icmp .ge 21, 3) := by decide +kernel
theorem d11_14 : decode jdk_52_method_14_code 14 = .ok (.aload_n 3, 1) := by decide +kernel
theorem d11_15 : decode jdk_52_method_14_code 15 = .ok (.iload 4, 2) := by decide +kernel
theorem d11_17 : decode jdk_52_method_14_code 17 = .ok (.aload_n 0, 1) := by decide +kernel
theorem d11_18 : decode jdk_52_method_14_code 18 = .ok (.iload_n 1, 1) := by decide +kernel
theorem d11_19 : decode jdk_52_method_14_code 19 = .ok (.caload, 1) := by decide +kernel
theorem d11_20 : decode jdk_52_method_14_code 20 = .ok (.invokestatic 111, 3) := by decide +kernel
theorem d11_23 : decode jdk_52_method_14_code 23 = .ok (.iinc 1 1, 3) := by decide +kernel
theorem d11_26 : decode jdk_52_method_14_code 26 = .ok (.iinc 4 1, 3) := by decide +kernel
theorem d11_29 : decode jdk_52_method_14_code 29 = .ok (.goto (-21), 3) := by decide +kernel
theorem d11_32 : decode jdk_52_method_14_code 32 = .ok (.aload_n 3, 1) := by decide +kernel
theorem d11_33 : decode jdk_52_method_14_code 33 = .ok (.areturn, 1) := by decide +kernel
theorem pn_11 : plainName "java/lang/StringUTF16" = true := by first | (simp [plainName, overriddenIn]; done) | decide +kernel
theorem pd_11_0 : parseMethodDescriptor "(I)[B" = some ⟨[.int], some (.array .byte)⟩ := by decide +kernel
theorem pd_11_1 : parseMethodDescriptor "([BII)V" = some ⟨[(.array .byte), .int, .int], none⟩ := by decide +kernel
theorem ef_11 (m : MethodId) (x0 : Addr) : entryFrame m #[(.ref x0), (.int (0 : Int32)), (.int (1 : Int32))] 5 = mkF m 0 #[.val (.ref x0), .val (.int (0 : Int32)), .val (.int (1 : Int32)), .unset, .unset] [] := by first | (simp [entryFrame, mkF, argsToLocals, Value.category]; done) | rfl
def Q11 (Z : State) (c0 : Int32) (h0 : Heap) (n0 : Nat) (v : Option Value) (h : Heap) (L : List Loc) : Prop := ∃ (t : Addr) (k : ClassId), v = some (.ref t) ∧ Fr n0 L ∧ n0 ≤ t ∧ h0.size ≤ t ∧ Keep h0 h [] ∧ Arv Z h t k .byte (2 : Int32) [(.int (nar .byte ((c0 >>> ((0 : Int32) &&& 31)).toInt8.toInt32))), (.int (nar .byte ((c0 >>> ((8 : Int32) &&& 31)).toInt8.toInt32)))] (.int (0 : Int32))
set_option maxRecDepth 65536 in
set_option maxHeartbeats 40000000 in
theorem rm11 (l : Launch) (Z : State) (a0 : Array Value) (hw : ∀ d ∈ tables_1, d.before a0 Z = true) (ws : List Jvm.Cond) (a1 : Addr) (k1 : ClassId) (c0 : Int32) (w0 : Int32) (h0 : Heap) (n0 : Nat) (Z0 : n0 ≤ h0.size) (V1 : Arv Z h0 a1 k1 .char (1 : Int32) [(.int c0)] (.int (0 : Int32))) (O0 : Old Z n0 h0) (St : own_St Z w0) :
    MetFree l (⟨"java/lang/StringUTF16", "toBytes", "([CII)[B"⟩ : MethodName) (head1 (Jvm.Cond.code (⟨"java/lang/StringUTF16", "toBytes", "([CII)[B"⟩ : MethodName) jdk_52_method_14_code 5 (some (.array .byte)) :: ws) ({ frames := 2, cells := 1, slots := 2, locals := 24 } : Room)) (fun a U => a = #[(.ref a1), (.int (0 : Int32)), (.int (1 : Int32))] ∧ Z.Warmed39 U.vm ∧ U.heap = h0) (fun _ _ _ _ _ => True) (fun _ U o U' => ∃ v L, o = .returned v ∧ Q11 Z c0 h0 n0 v U'.heap L ∧ FrameEnd U o U' L ({ frames := 2, cells := 1, slots := 2, locals := 24 } : Room).cells ({ frames := 2, cells := 1, slots := 2, locals := 24 } : Room).slots) := by
  refine MetFree.of_bodySF (plainFor_of_name pn_11) hisR ?_
  intro p e s m args below meth c s₁ Bd hml0 hP hK
  obtain ⟨rfl, hZ, hh⟩ := hP
  have hx := Bd.exec
  have hby := Bd.bytes
  have hml : c.maxLocals = 5 := hml0
  have hown : s.vm.findClass "java/lang/StringUTF16" = some m.cls := findClass_of_methodNamed Bd.named
  have hnm := (name_of_methodNamed Bd.named Bd.method).1
  have X0 : Stand p l e ({ frames := 2, cells := 1, slots := 2, locals := 24 } : Room) s m #[(.ref a1), (.int (0 : Int32)), (.int (1 : Int32))] below meth c s₁ [] 0 0 := Stand.of_body Bd
  have e0 : s₁.heap = h0 := by rw [← hh, Bd.state]; rfl
  have N0 := Fr.nil n0
  refine Goes.via (next := s₁.setTop (mkF m 0 #[.val (.ref a1), .val (.int (0 : Int32)), .val (.int (1 : Int32)), .unset, .unset] [])) (fun t k => castTop (ef_11 m a1) k) ?_
  refine Goes.via (fun t k => XS.iloadN X0.here hx rfl (hb hby d11_0) rfl k) ?_
  show Goes p e below (s₁.setTop (mkF m 1 #[.val (.ref a1), .val (.int (0 : Int32)), .val (.int (1 : Int32)), .unset, .unset] [(.int (1 : Int32))])) _
  obtain ⟨_, _, ⟨T1, L1, k1, n1⟩, -, X1, ⟨Lc1, hQ1, l1, y1, z1⟩, st1⟩ := Jvm.LawKit.callS X0 hx (y := (⟨"java/lang/StringUTF16", "newBytesFor", "(I)[B"⟩ : MethodName)) hown (mvT hZ (hw _ (List.mem_of_getElem? (i := 65) rfl))) (mvT hZ (hw _ (List.mem_of_getElem? (i := 66) rfl))) (mvT hZ (hw _ (List.mem_of_getElem? (i := 22) rfl))) (mvT hZ (hw _ (List.mem_of_getElem? (i := 67) rfl))) (by decide) (backOf (W := 0) (rm12 l Z a0 hw []   h0 n0 Z0 ) hZ (hw _ (List.mem_of_getElem? (i := 67) rfl)) (hw _ (List.mem_of_getElem? (i := 22) rfl)) (by decide) (by decide)) (g := (mkF m 1 #[.val (.ref a1), .val (.int (0 : Int32)), .val (.int (1 : Int32)), .unset, .unset] [(.int (1 : Int32))])) rfl (by rw [hml]; rfl) (argsL := [(.int (1 : Int32))]) (rest := []) (lenOf pd_11_0 rfl) rfl (by show 2 * 0 + _ ≤ _; exact Nat.le_of_eq rfl) (hb hby d11_1) (fun _ _ => ⟨rfl, e0, (by decide : 0 + 1 ≤ _), (by decide : 0 + 2 ≤ _)⟩)
  dsimp only [Pt.U, Pt.locs, Pt.cells, Pt.slots] at X1 l1 y1 z1 st1 hQ1
  subst l1 y1 z1
  obtain ⟨t1, kt1, rfl, N1q, gt1, zt1, Kc1, Vc1⟩ := hQ1
  have lt_a1_t1 : a1 < t1 := Nat.lt_of_lt_of_le V1.lt zt1
  have sz_t1 : h0.size ≤ t1 := Nat.le_trans (Keep.refl h0 []).1 zt1
  have F1_8 := V1.keep Kc1 List.not_mem_nil
  have K1 : Keep h0 T1.heap [] := (Keep.refl h0 []).trans Kc1 (fun x hx => nomatch hx)
  have Z1 : n0 ≤ T1.heap.size := Nat.le_trans Z0 Kc1.1
  have O1 := O0.keep Kc1 (fun x hx => nomatch hx)
  have N1 := Fr.app N0 N1q
  refine Goes.via st1 ?_
  show Goes p e below (T1.setTop (mkF m 4 #[.val (.ref a1), .val (.int (0 : Int32)), .val (.int (1 : Int32)), .unset, .unset] [(.ref t1)])) _
  refine Goes.via (fun t k => XS.astoreN X1.here hx rfl (hb hby d11_4) rfl rfl (l' := #[.val (.ref a1), .val (.int (0 : Int32)), .val (.int (1 : Int32)), .val (.ref t1), .unset]) rfl k) ?_
  show Goes p e below (T1.setTop (mkF m 5 #[.val (.ref a1), .val (.int (0 : Int32)), .val (.int (1 : Int32)), .val (.ref t1), .unset] [])) _
  refine Goes.via (fun t k => XS.iconst X1.here hx rfl (hb hby d11_5) k) ?_
  show Goes p e below (T1.setTop (mkF m 6 #[.val (.ref a1), .val (.int (0 : Int32)), .val (.int (1 : Int32)), .val (.ref t1), .unset] [(.int (0 : Int32))])) _
  refine Goes.via (fun t k => XS.istore X1.here hx rfl (hb hby d11_6) rfl (l' := #[.val (.ref a1), .val (.int (0 : Int32)), .val (.int (1 : Int32)), .val (.ref t1), .val (.int (0 : Int32))]) rfl k) ?_
  show Goes p e below (T1.setTop (mkF m 8 #[.val (.ref a1), .val (.int (0 : Int32)), .val (.int (1 : Int32)), .val (.ref t1), .val (.int (0 : Int32))] [])) _
  refine Goes.via (fun t k => XS.iload X1.here hx rfl (hb hby d11_8) rfl k) ?_
  show Goes p e below (T1.setTop (mkF m 10 #[.val (.ref a1), .val (.int (0 : Int32)), .val (.int (1 : Int32)), .val (.ref t1), .val (.int (0 : Int32))] [(.int (0 : Int32))])) _
  refine Goes.via (fun t k => XS.iloadN X1.here hx rfl (hb hby d11_10) rfl k) ?_
  show Goes p e below (T1.setTop (mkF m 11 #[.val (.ref a1), .val (.int (0 : Int32)), .val (.int (1 : Int32)), .val (.ref t1), .val (.int (0 : Int32))] [(.int (1 : Int32)), (.int (0 : Int32))])) _
  refine Goes.via (fun t k => XS.icmpNo X1.here hx rfl (hb hby d11_11) rfl (tlt (show (0 : Int32) < (1 : Int32) from (by decide))).2.1 k) ?_
  show Goes p e below (T1.setTop (mkF m 14 #[.val (.ref a1), .val (.int (0 : Int32)), .val (.int (1 : Int32)), .val (.ref t1), .val (.int (0 : Int32))] [])) _
  refine Goes.via (fun t k => XS.aloadN X1.here hx rfl (hb hby d11_14) rfl rfl k) ?_
  show Goes p e below (T1.setTop (mkF m 15 #[.val (.ref a1), .val (.int (0 : Int32)), .val (.int (1 : Int32)), .val (.ref t1), .val (.int (0 : Int32))] [(.ref t1)])) _
  refine Goes.via (fun t k => XS.iload X1.here hx rfl (hb hby d11_15) rfl k) ?_
  show Goes p e below (T1.setTop (mkF m 17 #[.val (.ref a1), .val (.int (0 : Int32)), .val (.int (1 : Int32)), .val (.ref t1), .val (.int (0 : Int32))] [(.int (0 : Int32)), (.ref t1)])) _
  refine Goes.via (fun t k => XS.aloadN X1.here hx rfl (hb hby d11_17) rfl rfl k) ?_
  show Goes p e below (T1.setTop (mkF m 18 #[.val (.ref a1), .val (.int (0 : Int32)), .val (.int (1 : Int32)), .val (.ref t1), .val (.int (0 : Int32))] [(.ref a1), (.int (0 : Int32)), (.ref t1)])) _
  refine Goes.via (fun t k => XS.iloadN X1.here hx rfl (hb hby d11_18) rfl k) ?_
  show Goes p e below (T1.setTop (mkF m 19 #[.val (.ref a1), .val (.int (0 : Int32)), .val (.int (1 : Int32)), .val (.ref t1), .val (.int (0 : Int32))] [(.int (0 : Int32)), (.ref a1), (.int (0 : Int32)), (.ref t1)])) _
  obtain ⟨cl2, Ar2, qa2, Sa2, Na2, Ha2, Ga2⟩ := id F1_8
  have hin2 : ¬ ((0 : Int32) < 0 ∨ cl2.slots.size ≤ ((0 : Int32)).toNatClampNeg) := inb_of Sa2 ⟨by decide, by decide⟩
  have hat2 : cl2.slots[((0 : Int32)).toNatClampNeg]? = some (.int c0) := Ha2.at hin2 rfl
  refine Goes.via (fun t k => X1.caload hx (j := (0 : Int32)) (v := (.int c0)) Ar2.1 (State.isArrayOf_alike hZ.alike Ar2.2.1) Ar2.2.2 hin2 hat2 (g := (mkF m 19 #[.val (.ref a1), .val (.int (0 : Int32)), .val (.int (1 : Int32)), .val (.ref t1), .val (.int (0 : Int32))] [(.int (0 : Int32)), (.ref a1), (.int (0 : Int32)), (.ref t1)])) rfl rfl (hb hby d11_19) _ k) ?_
  show Goes p e below (T1.setTop (mkF m 20 #[.val (.ref a1), .val (.int (0 : Int32)), .val (.int (1 : Int32)), .val (.ref t1), .val (.int (0 : Int32))] [(.int c0), (.int (0 : Int32)), (.ref t1)])) _
  obtain ⟨Lw3, X3w, N3w⟩ := ownPack X1 N1
  obtain ⟨_, _, ⟨T4, L4, k4, n4⟩, -, X4, ⟨Lc4, hQ4, l4, y4, z4⟩, st4⟩ := Jvm.LawKit.callS X3w hx (y := (⟨"java/lang/StringUTF16", "putChar", "([BII)V"⟩ : MethodName)) hown (mvT hZ (hw _ (List.mem_of_getElem? (i := 72) rfl))) (mvT hZ (hw _ (List.mem_of_getElem? (i := 73) rfl))) (mvT hZ (hw _ (List.mem_of_getElem? (i := 22) rfl))) (mvT hZ (hw _ (List.mem_of_getElem? (i := 74) rfl))) (by decide) (backOf (W := 0) (rm14 l Z a0 hw [] t1 c0 kt1 w0 T1.heap n0 Z1 Vc1 gt1 O1 St) hZ (hw _ (List.mem_of_getElem? (i := 74) rfl)) (hw _ (List.mem_of_getElem? (i := 22) rfl)) (by decide) (by decide)) (g := (mkF m 20 #[.val (.ref a1), .val (.int (0 : Int32)), .val (.int (1 : Int32)), .val (.ref t1), .val (.int (0 : Int32))] [(.int c0), (.int (0 : Int32)), (.ref t1)])) rfl (by rw [hml]; rfl) (argsL := [(.ref t1), (.int (0 : Int32)), (.int c0)]) (rest := []) (lenOf pd_11_1 rfl) rfl (by show 2 * 0 + _ ≤ _; exact Nat.le_of_eq rfl) (hb hby d11_20) (fun _ _ => ⟨rfl, rfl, (by decide : 1 + 0 ≤ _), (by decide : 2 + 0 ≤ _)⟩)
  dsimp only [Pt.U, Pt.locs, Pt.cells, Pt.slots] at X4 l4 y4 z4 st4 hQ4
  subst l4 y4 z4
  obtain ⟨rfl, N4q, Kc4, Vc4⟩ := hQ4
  have F4_45 := F1_8.keep Kc4 (fun q => (Nat.ne_of_lt lt_a1_t1) (List.mem_singleton.mp q))
  have K4 : Keep h0 T4.heap [] := K1.trans Kc4 (fun x hx => by cases List.mem_singleton.mp hx; exact Or.inr sz_t1)
  have Z4 : n0 ≤ T4.heap.size := Nat.le_trans Z1 Kc4.1
  have O4 := O1.keep Kc4 (fun x hx => by cases List.mem_singleton.mp hx; exact gt1)
  have N4 := Fr.app N3w N4q
  refine Goes.via st4 ?_
  show Goes p e below (T4.setTop (mkF m 23 #[.val (.ref a1), .val (.int (0 : Int32)), .val (.int (1 : Int32)), .val (.ref t1), .val (.int (0 : Int32))] [])) _
  refine Goes.via (fun t k => XS.iinc X4.here hx rfl (hb hby d11_23) rfl (l' := #[.val (.ref a1), .val (.int (1 : Int32)), .val (.int (1 : Int32)), .val (.ref t1), .val (.int (0 : Int32))]) rfl k) ?_
  show Goes p e below (T4.setTop (mkF m 26 #[.val (.ref a1), .val (.int (1 : Int32)), .val (.int (1 : Int32)), .val (.ref t1), .val (.int (0 : Int32))] [])) _
  refine Goes.via (fun t k => XS.iinc X4.here hx rfl (hb hby d11_26) rfl (l' := #[.val (.ref a1), .val (.int (1 : Int32)), .val (.int (1 : Int32)), .val (.ref t1), .val (.int (1 : Int32))]) rfl k) ?_
  show Goes p e below (T4.setTop (mkF m 29 #[.val (.ref a1), .val (.int (1 : Int32)), .val (.int (1 : Int32)), .val (.ref t1), .val (.int (1 : Int32))] [])) _
  refine Goes.via (fun t k => XS.goto X4.here hx rfl (pc0 := 29) (pc' := 8) rfl (hb hby d11_29) (by decide) (by decide) k) ?_
  show Goes p e below (T4.setTop (mkF m 8 #[.val (.ref a1), .val (.int (1 : Int32)), .val (.int (1 : Int32)), .val (.ref t1), .val (.int (1 : Int32))] [])) _
  refine Goes.via (fun t k => XS.iload X4.here hx rfl (hb hby d11_8) rfl k) ?_
  show Goes p e below (T4.setTop (mkF m 10 #[.val (.ref a1), .val (.int (1 : Int32)), .val (.int (1 : Int32)), .val (.ref t1), .val (.int (1 : Int32))] [(.int (1 : Int32))])) _
  refine Goes.via (fun t k => XS.iloadN X4.here hx rfl (hb hby d11_10) rfl k) ?_
  show Goes p e below (T4.setTop (mkF m 11 #[.val (.ref a1), .val (.int (1 : Int32)), .val (.int (1 : Int32)), .val (.ref t1), .val (.int (1 : Int32))] [(.int (1 : Int32)), (.int (1 : Int32))])) _
  refine Goes.via (fun t k => XS.icmpYes X4.here hx rfl (pc0 := 11) (pc' := 32) rfl (hb hby d11_11) rfl (flt (show ¬ ((1 : Int32) < (1 : Int32)) from (by decide))).2.1 (by decide) (by decide) k) ?_
  show Goes p e below (T4.setTop (mkF m 32 #[.val (.ref a1), .val (.int (1 : Int32)), .val (.int (1 : Int32)), .val (.ref t1), .val (.int (1 : Int32))] [])) _
  refine Goes.via (fun t k => XS.aloadN X4.here hx rfl (hb hby d11_32) rfl rfl k) ?_
  show Goes p e below (T4.setTop (mkF m 33 #[.val (.ref a1), .val (.int (1 : Int32)), .val (.int (1 : Int32)), .val (.ref t1), .val (.int (1 : Int32))] [(.ref t1)])) _
  obtain ⟨fs, hr, hrun, hended, hW, hsame⟩ := X4.leave (v := some (.ref t1)) (fun h => by rw [Bd.returns] at h; cases h)
  refine ⟨_, _, ?_, hrun, hended, _, _, rfl, ?_, ⟨_, rfl⟩, hW, hsame.mono (by decide) (by decide)⟩
  · exact retOut X4 hx (t := (.array .byte)) Bd.returns rfl (Or.inr (Or.inr (Or.inr (Or.inr ⟨rfl, rfl, rfl⟩)))) (hb hby d11_33) hr
  · show Q11 Z c0 h0 n0 _ T4.heap _
    exact ⟨t1, _, rfl, N4, gt1, sz_t1, K4, Vc4⟩
theorem d15_0 : decode jdk_52_method_5_code 0 = .ok (.getstatic 44, 3) := by decide +kernel
theorem d15_3 : decode jdk_52_method_5_code 3 = .ok (.ifCond .ne 25, 3) := by decide +kernel
theorem d15_28 : decode jdk_52_method_5_code 28 = .ok (.iload_n 1, 1) := by decide +kernel
theorem d15_29 : decode jdk_52_method_5_code 29 = .ok (.iconst 1, 1) := by decide +kernel
theorem d15_30 : decode jdk_52_method_5_code 30 = .ok (.ishl, 1) := by decide +kernel
theorem d15_31 : decode jdk_52_method_5_code 31 = .ok (.istore_n 1, 1) := by decide +kernel
theorem d15_32 : decode jdk_52_method_5_code 32 = .ok (.aload_n 0, 1) := by decide +kernel
theorem d15_33 : decode jdk_52_method_5_code 33 = .ok (.iload_n 1, 1) := by decide +kernel
theorem d15_34 : decode jdk_52_method_5_code 34 = .ok (.iinc 1 1, 3) := by decide +kernel
theorem d15_37 : decode jdk_52_method_5_code 37 = .ok (.baload, 1) := by decide +kernel
theorem d15_38 : decode jdk_52_method_5_code 38 = .ok (.sipush 255, 3) := by decide +kernel
theorem d15_41 : decode jdk_52_method_5_code 41 = .ok (.iand, 1) := by decide +kernel
theorem d15_42 : decode jdk_52_method_5_code 42 = .ok (.getstatic 59, 3) := by decide +kernel
theorem d15_45 : decode jdk_52_method_5_code 45 = .ok (.ishl, 1) := by decide +kernel
theorem d15_46 : decode jdk_52_method_5_code 46 = .ok (.aload_n 0, 1) := by decide +kernel
theorem d15_47 : decode jdk_52_method_5_code 47 = .ok (.iload_n 1, 1) := by decide +kernel
theorem d15_48 : decode jdk_52_method_5_code 48 = .ok (.baload, 1) := by decide +kernel
theorem d15_49 : decode jdk_52_method_5_code 49 = .ok (.sipush 255, 3) := by decide +kernel
theorem d15_52 : decode jdk_52_method_5_code 52 = .ok (.iand, 1) := by decide +kernel
theorem d15_53 : decode jdk_52_method_5_code 53 = .ok (.getstatic 63, 3) := by decide +kernel
theorem d15_56 : decode jdk_52_method_5_code 56 = .ok (.ishl, 1) := by decide +kernel
theorem d15_57 : decode jdk_52_method_5_code 57 = .ok (.ior, 1) := by decide +kernel
theorem d15_58 : decode jdk_52_method_5_code 58 = .ok (.i2c, 1) := by decide +kernel
theorem d15_59 : decode jdk_52_method_5_code 59 = .ok (.ireturn, 1) := by decide +kernel
theorem pn_15 : plainName "java/lang/StringUTF16" = true := by first | (simp [plainName, overriddenIn]; done) | decide +kernel
theorem ef_15 (m : MethodId) (x0 : Addr) : entryFrame m #[(.ref x0), (.int (0 : Int32))] 2 = mkF m 0 #[.val (.ref x0), .val (.int (0 : Int32))] [] := by first | (simp [entryFrame, mkF, argsToLocals, Value.category]; done) | rfl
def Q15 (Z : State) (x0 x1 : Int32) (h0 : Heap) (n0 : Nat) (v : Option Value) (h : Heap) (L : List Loc) : Prop := v = some (.int (nar .char (((((x0 &&& (255 : Int32)) <<< ((0 : Int32) &&& 31)) ||| ((x1 &&& (255 : Int32)) <<< ((8 : Int32) &&& 31)))).toUInt32.toUInt16.toUInt32.toInt32))) ∧ Fr n0 L ∧ h = h0
set_option maxRecDepth 65536 in
set_option maxHeartbeats 40000000 in
theorem rm15 (l : Launch) (Z : State) (a0 : Array Value) (hw : ∀ d ∈ tables_1, d.before a0 Z = true) (ws : List Jvm.Cond) (a1 : Addr) (k1 : ClassId) (x0 x1 : Int32) (w0 : Int32) (h0 : Heap) (n0 : Nat) (Z0 : n0 ≤ h0.size) (V1 : Arv Z h0 a1 k1 .byte (2 : Int32) [(.int x0), (.int x1)] (.int (0 : Int32))) (O0 : Old Z n0 h0) (St : own_St Z w0) :
    MetFree l (⟨"java/lang/StringUTF16", "getChar", "([BI)C"⟩ : MethodName) (head1 (Jvm.Cond.code (⟨"java/lang/StringUTF16", "getChar", "([BI)C"⟩ : MethodName) jdk_52_method_5_code 2 (some .char) :: ws) ({ frames := 0, cells := 0, slots := 0, locals := 0 } : Room)) (fun a U => a = #[(.ref a1), (.int (0 : Int32))] ∧ Z.Warmed39 U.vm ∧ U.heap = h0) (fun _ _ _ _ _ => True) (fun _ U o U' => ∃ v L, o = .returned v ∧ Q15 Z x0 x1 h0 n0 v U'.heap L ∧ FrameEnd U o U' L ({ frames := 0, cells := 0, slots := 0, locals := 0 } : Room).cells ({ frames := 0, cells := 0, slots := 0, locals := 0 } : Room).slots) := by
  refine MetFree.of_bodySF (plainFor_of_name pn_15) hisR ?_
  intro p e s m args below meth c s₁ Bd hml0 hP hK
  obtain ⟨rfl, hZ, hh⟩ := hP
  have hx := Bd.exec
  have hby := Bd.bytes
  have hml : c.maxLocals = 2 := hml0
  have hown : s.vm.findClass "java/lang/StringUTF16" = some m.cls := findClass_of_methodNamed Bd.named
  have hnm := (name_of_methodNamed Bd.named Bd.method).1
  have X0 : Stand p l e ({ frames := 0, cells := 0, slots := 0, locals := 0 } : Room) s m #[(.ref a1), (.int (0 : Int32))] below meth c s₁ [] 0 0 := Stand.of_body Bd
  have e0 : s₁.heap = h0 := by rw [← hh, Bd.state]; rfl
  have N0 := Fr.nil n0
  refine Goes.via (next := s₁.setTop (mkF m 0 #[.val (.ref a1), .val (.int (0 : Int32))] [])) (fun t k => castTop (ef_15 m a1) k) ?_
  obtain ⟨T1, X1, e1, st1⟩ := getS2 X0 hx hZ hown (host := "") (Or.inl (hw _ (List.mem_of_getElem? (i := 75) rfl))) Via.refl e0 (St.2.2.1.ext O0.2) (g := (mkF m 0 #[.val (.ref a1), .val (.int (0 : Int32))] [])) rfl (hb hby d15_0)
  refine Goes.via st1 ?_
  show Goes p e below (T1.setTop (mkF m 3 #[.val (.ref a1), .val (.int (0 : Int32))] [(.int (1 : Int32))])) _
  refine Goes.via (fun t k => XS.ifYes X1.here hx rfl (pc0 := 3) (pc' := 28) rfl (hb hby d15_3) rfl ((if0 _ _).trans (feq (show ¬ ((1 : Int32) = (0 : Int32)) from (by decide))).2) (by decide) (by decide) k) ?_
  show Goes p e below (T1.setTop (mkF m 28 #[.val (.ref a1), .val (.int (0 : Int32))] [])) _
  refine Goes.via (fun t k => XS.iloadN X1.here hx rfl (hb hby d15_28) rfl k) ?_
  show Goes p e below (T1.setTop (mkF m 29 #[.val (.ref a1), .val (.int (0 : Int32))] [(.int (0 : Int32))])) _
  refine Goes.via (fun t k => XS.iconst X1.here hx rfl (hb hby d15_29) k) ?_
  show Goes p e below (T1.setTop (mkF m 30 #[.val (.ref a1), .val (.int (0 : Int32))] [(.int (1 : Int32)), (.int (0 : Int32))])) _
  refine Goes.via (fun t k => XS.ishl X1.here hx rfl (hb hby d15_30) rfl k) ?_
  show Goes p e below (T1.setTop (mkF m 31 #[.val (.ref a1), .val (.int (0 : Int32))] [(.int (0 : Int32))])) _
  refine Goes.via (fun t k => XS.istoreN X1.here hx rfl (hb hby d15_31) rfl (l' := #[.val (.ref a1), .val (.int (0 : Int32))]) rfl k) ?_
  show Goes p e below (T1.setTop (mkF m 32 #[.val (.ref a1), .val (.int (0 : Int32))] [])) _
  refine Goes.via (fun t k => XS.aloadN X1.here hx rfl (hb hby d15_32) rfl rfl k) ?_
  show Goes p e below (T1.setTop (mkF m 33 #[.val (.ref a1), .val (.int (0 : Int32))] [(.ref a1)])) _
  refine Goes.via (fun t k => XS.iloadN X1.here hx rfl (hb hby d15_33) rfl k) ?_
  show Goes p e below (T1.setTop (mkF m 34 #[.val (.ref a1), .val (.int (0 : Int32))] [(.int (0 : Int32)), (.ref a1)])) _
  refine Goes.via (fun t k => XS.iinc X1.here hx rfl (hb hby d15_34) rfl (l' := #[.val (.ref a1), .val (.int (1 : Int32))]) rfl k) ?_
  show Goes p e below (T1.setTop (mkF m 37 #[.val (.ref a1), .val (.int (1 : Int32))] [(.int (0 : Int32)), (.ref a1)])) _
  obtain ⟨cl2, Ar2, qa2, Sa2, Na2, Ha2, Ga2⟩ := id V1
  have hin2 : ¬ ((0 : Int32) < 0 ∨ cl2.slots.size ≤ ((0 : Int32)).toNatClampNeg) := inb_of Sa2 ⟨by decide, by decide⟩
  have hat2 : cl2.slots[((0 : Int32)).toNatClampNeg]? = some (.int x0) := Ha2.at hin2 rfl
  refine Goes.via (fun t k => X1.baloadBytes hx (j := (0 : Int32)) (v := (.int x0)) (by rw [e1]; exact Ar2.1) (State.isArrayOf_alike hZ.alike Ar2.2.1) Ar2.2.2 hin2 hat2 (g := (mkF m 37 #[.val (.ref a1), .val (.int (1 : Int32))] [(.int (0 : Int32)), (.ref a1)])) rfl rfl (hb hby d15_37) _ k) ?_
  show Goes p e below (T1.setTop (mkF m 38 #[.val (.ref a1), .val (.int (1 : Int32))] [(.int x0)])) _
  refine Goes.via (fun t k => XS.sipush X1.here hx rfl (hb hby d15_38) k) ?_
  show Goes p e below (T1.setTop (mkF m 41 #[.val (.ref a1), .val (.int (1 : Int32))] [(.int (255 : Int32)), (.int x0)])) _
  refine Goes.via (fun t k => XS.iand X1.here hx rfl (hb hby d15_41) rfl k) ?_
  show Goes p e below (T1.setTop (mkF m 42 #[.val (.ref a1), .val (.int (1 : Int32))] [(.int (x0 &&& (255 : Int32)))])) _
  obtain ⟨T3, X3, e3, st3⟩ := getS2 X1 hx hZ hown (host := "") (Or.inl (hw _ (List.mem_of_getElem? (i := 76) rfl))) Via.refl e1 (St.2.2.2.1.ext O0.2) (g := (mkF m 42 #[.val (.ref a1), .val (.int (1 : Int32))] [(.int (x0 &&& (255 : Int32)))])) rfl (hb hby d15_42)
  refine Goes.via st3 ?_
  show Goes p e below (T3.setTop (mkF m 45 #[.val (.ref a1), .val (.int (1 : Int32))] [(.int (0 : Int32)), (.int (x0 &&& (255 : Int32)))])) _
  refine Goes.via (fun t k => XS.ishl X3.here hx rfl (hb hby d15_45) rfl k) ?_
  show Goes p e below (T3.setTop (mkF m 46 #[.val (.ref a1), .val (.int (1 : Int32))] [(.int ((x0 &&& (255 : Int32)) <<< ((0 : Int32) &&& 31)))])) _
  refine Goes.via (fun t k => XS.aloadN X3.here hx rfl (hb hby d15_46) rfl rfl k) ?_
  show Goes p e below (T3.setTop (mkF m 47 #[.val (.ref a1), .val (.int (1 : Int32))] [(.ref a1), (.int ((x0 &&& (255 : Int32)) <<< ((0 : Int32) &&& 31)))])) _
  refine Goes.via (fun t k => XS.iloadN X3.here hx rfl (hb hby d15_47) rfl k) ?_
  show Goes p e below (T3.setTop (mkF m 48 #[.val (.ref a1), .val (.int (1 : Int32))] [(.int (1 : Int32)), (.ref a1), (.int ((x0 &&& (255 : Int32)) <<< ((0 : Int32) &&& 31)))])) _
  obtain ⟨cl4, Ar4, qa4, Sa4, Na4, Ha4, Ga4⟩ := id V1
  have hin4 : ¬ ((1 : Int32) < 0 ∨ cl4.slots.size ≤ ((1 : Int32)).toNatClampNeg) := inb_of Sa4 ⟨by decide, by decide⟩
  have hat4 : cl4.slots[((1 : Int32)).toNatClampNeg]? = some (.int x1) := Ha4.at hin4 rfl
  refine Goes.via (fun t k => X3.baloadBytes hx (j := (1 : Int32)) (v := (.int x1)) (by rw [e3]; exact Ar4.1) (State.isArrayOf_alike hZ.alike Ar4.2.1) Ar4.2.2 hin4 hat4 (g := (mkF m 48 #[.val (.ref a1), .val (.int (1 : Int32))] [(.int (1 : Int32)), (.ref a1), (.int ((x0 &&& (255 : Int32)) <<< ((0 : Int32) &&& 31)))])) rfl rfl (hb hby d15_48) _ k) ?_
  show Goes p e below (T3.setTop (mkF m 49 #[.val (.ref a1), .val (.int (1 : Int32))] [(.int x1), (.int ((x0 &&& (255 : Int32)) <<< ((0 : Int32) &&& 31)))])) _
  refine Goes.via (fun t k => XS.sipush X3.here hx rfl (hb hby d15_49) k) ?_
  show Goes p e below (T3.setTop (mkF m 52 #[.val (.ref a1), .val (.int (1 : Int32))] [(.int (255 : Int32)), (.int x1), (.int ((x0 &&& (255 : Int32)) <<< ((0 : Int32) &&& 31)))])) _
  refine Goes.via (fun t k => XS.iand X3.here hx rfl (hb hby d15_52) rfl k) ?_
  show Goes p e below (T3.setTop (mkF m 53 #[.val (.ref a1), .val (.int (1 : Int32))] [(.int (x1 &&& (255 : Int32))), (.int ((x0 &&& (255 : Int32)) <<< ((0 : Int32) &&& 31)))])) _
  obtain ⟨T5, X5, e5, st5⟩ := getS2 X3 hx hZ hown (host := "") (Or.inl (hw _ (List.mem_of_getElem? (i := 77) rfl))) Via.refl e3 (St.2.2.2.2.ext O0.2) (g := (mkF m 53 #[.val (.ref a1), .val (.int (1 : Int32))] [(.int (x1 &&& (255 : Int32))), (.int ((x0 &&& (255 : Int32)) <<< ((0 : Int32) &&& 31)))])) rfl (hb hby d15_53)
  refine Goes.via st5 ?_
  show Goes p e below (T5.setTop (mkF m 56 #[.val (.ref a1), .val (.int (1 : Int32))] [(.int (8 : Int32)), (.int (x1 &&& (255 : Int32))), (.int ((x0 &&& (255 : Int32)) <<< ((0 : Int32) &&& 31)))])) _
  refine Goes.via (fun t k => XS.ishl X5.here hx rfl (hb hby d15_56) rfl k) ?_
  show Goes p e below (T5.setTop (mkF m 57 #[.val (.ref a1), .val (.int (1 : Int32))] [(.int ((x1 &&& (255 : Int32)) <<< ((8 : Int32) &&& 31))), (.int ((x0 &&& (255 : Int32)) <<< ((0 : Int32) &&& 31)))])) _
  refine Goes.via (fun t k => XS.ior X5.here hx rfl (hb hby d15_57) rfl k) ?_
  show Goes p e below (T5.setTop (mkF m 58 #[.val (.ref a1), .val (.int (1 : Int32))] [(.int (((x0 &&& (255 : Int32)) <<< ((0 : Int32) &&& 31)) ||| ((x1 &&& (255 : Int32)) <<< ((8 : Int32) &&& 31))))])) _
  refine Goes.via (fun t k => XS.i2c X5.here hx rfl (hb hby d15_58) rfl k) ?_
  show Goes p e below (T5.setTop (mkF m 59 #[.val (.ref a1), .val (.int (1 : Int32))] [(.int ((((x0 &&& (255 : Int32)) <<< ((0 : Int32) &&& 31)) ||| ((x1 &&& (255 : Int32)) <<< ((8 : Int32) &&& 31))).toUInt32.toUInt16.toUInt32.toInt32))])) _
  obtain ⟨fs, hr, hrun, hended, hW, hsame⟩ := X5.leave (v := some (.int (nar .char ((((x0 &&& (255 : Int32)) <<< ((0 : Int32) &&& 31)) ||| ((x1 &&& (255 : Int32)) <<< ((8 : Int32) &&& 31))).toUInt32.toUInt16.toUInt32.toInt32)))) (fun h => by rw [Bd.returns] at h; cases h)
  refine ⟨_, _, ?_, hrun, hended, _, _, rfl, ?_, ⟨_, rfl⟩, hW, hsame.mono (by decide) (by decide)⟩
  · exact retN X5 hx (t := .char) Bd.returns (by simp) (hb hby d15_59) hr
  · show Q15 Z x0 x1 h0 n0 _ T5.heap _
    rw [e5]
    exact ⟨rfl, N0, rfl⟩
theorem d5_u_0 : decode jdk_52_method_16_code 0 = .ok (.iload_n 2, 1) := by decide +kernel
theorem d5_u_1 : decode jdk_52_method_16_code 1 = .ok (.newarray .byte, 2) := by decide +kernel
theorem d5_u_3 : decode jdk_52_method_16_code 3 = .ok (.astore_n 3, 1) := by decide +kernel
theorem d5_u_4 : decode jdk_52_method_16_code 4 = .ok (.aload_n 0, 1) := by decide +kernel
theorem d5_u_5 : decode jdk_52_method_16_code 5 = .ok (.iload_n 1, 1) := by decide +kernel
theorem d5_u_6 : decode jdk_52_method_16_code 6 = .ok (.aload_n 3, 1) := by decide +kernel
theorem d5_u_7 : decode jdk_52_method_16_code 7 = .ok (.iconst 0, 1) := by decide +kernel
theorem d5_u_8 : decode jdk_52_method_16_code 8 = .ok (.iload_n 2, 1) := by decide +kernel
theorem d5_u_9 : decode jdk_52_method_16_code 9 = .ok (.invokestatic 115, 3) := by decide +kernel
theorem d5_u_12 : decode jdk_52_method_16_code 12 = .ok (.istore 4, 2) := by decide +kernel
theorem d5_u_14 : decode jdk_52_method_16_code 14 = .ok (.iload 4, 2) := by decide +kernel
theorem d5_u_16 : decode jdk_52_method_16_code 16 = .ok (.iload_n 2, 1) := by decide +kernel
theorem d5_u_17 : decode jdk_52_method_16_code 17 = .ok (.if_icmp .eq 40, 3) := by decide +kernel
theorem d5_u_20 : decode jdk_52_method_16_code 20 = .ok (.aload_n 0, 1) := by decide +kernel
theorem d5_u_21 : decode jdk_52_method_16_code 21 = .ok (.iload_n 1, 1) := by decide +kernel
theorem d5_u_22 : decode jdk_52_method_16_code 22 = .ok (.iload_n 2, 1) := by decide +kernel
theorem d5_u_23 : decode jdk_52_method_16_code 23 = .ok (.invokestatic 119, 3) := by decide +kernel
theorem d5_u_26 : decode jdk_52_method_16_code 26 = .ok (.astore 5, 2) := by decide +kernel
theorem d5_u_28 : decode jdk_52_method_16_code 28 = .ok (.aload 5, 2) := by decide +kernel
theorem d5_u_30 : decode jdk_52_method_16_code 30 = .ok (.iload 4, 2) := by decide +kernel
theorem d5_u_32 : decode jdk_52_method_16_code 32 = .ok (.invokestatic 71, 3) := by decide +kernel
theorem d5_u_35 : decode jdk_52_method_16_code 35 = .ok (.sipush 255, 3) := by decide +kernel
theorem d5_u_38 : decode jdk_52_method_16_code 38 = .ok (.if_icmp .gt 16, 3) := by decide +kernel
theorem d5_u_54 : decode jdk_52_method_16_code 54 = .ok (.aload 5, 2) := by decide +kernel
theorem d5_u_56 : decode jdk_52_method_16_code 56 = .ok (.areturn, 1) := by decide +kernel
theorem pn_5_u : plainName "java/lang/StringUTF16" = true := by first | (simp [plainName, overriddenIn]; done) | decide +kernel
theorem pd_5_u_0 : parseMethodDescriptor "([CI[BII)I" = some ⟨[(.array .char), .int, (.array .byte), .int, .int], some .int⟩ := by decide +kernel
theorem pd_5_u_1 : parseMethodDescriptor "([CII)[B" = some ⟨[(.array .char), .int, .int], some (.array .byte)⟩ := by decide +kernel
theorem pd_5_u_2 : parseMethodDescriptor "([BI)C" = some ⟨[(.array .byte), .int], some .char⟩ := by decide +kernel
theorem ef_5_u (m : MethodId) (x0 : Addr) : entryFrame m #[(.ref x0), (.int (0 : Int32)), (.int (1 : Int32))] 6 = mkF m 0 #[.val (.ref x0), .val (.int (0 : Int32)), .val (.int (1 : Int32)), .unset, .unset, .unset] [] := by first | (simp [entryFrame, mkF, argsToLocals, Value.category]; done) | rfl
def Q5_u (Z : State) (c0 : Int32) (h0 : Heap) (n0 : Nat) (v : Option Value) (h : Heap) (L : List Loc) : Prop := ∃ (t : Addr) (k : ClassId), v = some (.ref t) ∧ Fr n0 L ∧ n0 ≤ t ∧ h0.size ≤ t ∧ Keep h0 h [] ∧ Arv Z h t k .byte (2 : Int32) [(.int (nar .byte ((c0 >>> ((0 : Int32) &&& 31)).toInt8.toInt32))), (.int (nar .byte ((c0 >>> ((8 : Int32) &&& 31)).toInt8.toInt32)))] (.int (0 : Int32))
set_option maxRecDepth 65536 in
set_option maxHeartbeats 40000000 in
theorem rm5_u (l : Launch) (Z : State) (a0 : Array Value) (hw : ∀ d ∈ tables_1, d.before a0 Z = true) (ws : List Jvm.Cond) (a1 : Addr) (k1 : ClassId) (c0 : Int32) (w0 : Int32) (h0 : Heap) (n0 : Nat) (Z0 : n0 ≤ h0.size) (V1 : Arv Z h0 a1 k1 .char (1 : Int32) [(.int c0)] (.int (0 : Int32))) (hc0 : (255 : Int32) < c0) (hr0 : 0 ≤ c0.toInt ∧ c0.toInt < 65536) (O0 : Old Z n0 h0) (St : own_St Z w0) :
    MetFree l (⟨"java/lang/StringUTF16", "compress", "([CII)[B"⟩ : MethodName) (head1 (Jvm.Cond.code (⟨"java/lang/StringUTF16", "compress", "([CII)[B"⟩ : MethodName) jdk_52_method_16_code 6 (some (.array .byte)) :: ws) ({ frames := 3, cells := 2, slots := 3, locals := 40 } : Room)) (fun a U => a = #[(.ref a1), (.int (0 : Int32)), (.int (1 : Int32))] ∧ Z.Warmed39 U.vm ∧ U.heap = h0) (fun _ _ _ _ _ => True) (fun _ U o U' => ∃ v L, o = .returned v ∧ Q5_u Z c0 h0 n0 v U'.heap L ∧ FrameEnd U o U' L ({ frames := 3, cells := 2, slots := 3, locals := 40 } : Room).cells ({ frames := 3, cells := 2, slots := 3, locals := 40 } : Room).slots) := by
  refine MetFree.of_bodySF (plainFor_of_name pn_5_u) hisR ?_
  intro p e s m args below meth c s₁ Bd hml0 hP hK
  obtain ⟨rfl, hZ, hh⟩ := hP
  have hx := Bd.exec
  have hby := Bd.bytes
  have hml : c.maxLocals = 6 := hml0
  have hown : s.vm.findClass "java/lang/StringUTF16" = some m.cls := findClass_of_methodNamed Bd.named
  have hnm := (name_of_methodNamed Bd.named Bd.method).1
  have X0 : Stand p l e ({ frames := 3, cells := 2, slots := 3, locals := 40 } : Room) s m #[(.ref a1), (.int (0 : Int32)), (.int (1 : Int32))] below meth c s₁ [] 0 0 := Stand.of_body Bd
  have e0 : s₁.heap = h0 := by rw [← hh, Bd.state]; rfl
  have N0 := Fr.nil n0
  refine Goes.via (next := s₁.setTop (mkF m 0 #[.val (.ref a1), .val (.int (0 : Int32)), .val (.int (1 : Int32)), .unset, .unset, .unset] [])) (fun t k => castTop (ef_5_u m a1) k) ?_
  refine Goes.via (fun t k => XS.iloadN X0.here hx rfl (hb hby d5_u_0) rfl k) ?_
  show Goes p e below (s₁.setTop (mkF m 1 #[.val (.ref a1), .val (.int (0 : Int32)), .val (.int (1 : Int32)), .unset, .unset, .unset] [(.int (1 : Int32))])) _
  obtain ⟨T1, h1, ka1, X1, e1, E1, A1, st1⟩ := newP X0 hx hZ (hw _ (List.mem_of_getElem? (i := 24) rfl)) e0 (g := (mkF m 1 #[.val (.ref a1), .val (.int (0 : Int32)), .val (.int (1 : Int32)), .unset, .unset, .unset] [(.int (1 : Int32))])) rfl (hb hby d5_u_1) rfl (by decide) (cap := 1) (by decide) (by decide) (by decide) (by decide)
  obtain ⟨b1, g1⟩ : ∃ z, z = h0.size := ⟨_, rfl⟩
  rw [← g1] at A1 st1
  have lt_a1_b1 : a1 < b1 := Nat.lt_of_lt_of_le V1.lt (Nat.le_of_eq g1.symm)
  have ge_b1 : n0 ≤ b1 := Nat.le_trans Z0 (Nat.le_of_eq g1.symm)
  have sz_b1 : h0.size ≤ b1 := Nat.le_trans (Keep.refl h0 []).1 (Nat.le_of_eq g1.symm)
  have F1_8 := V1.ext E1
  have K1 : Keep h0 h1 [] := (Keep.refl h0 []).ext E1
  have Z1 : n0 ≤ h1.size := Nat.le_trans Z0 E1.1
  have O1 := O0.ext E1
  have V1 : Arv Z h1 b1 ka1 .byte (1 : Int32) [(.int (0 : Int32))] (.int (0 : Int32)) := (Arv.new A1 (by decide)).pad (pad_rep [] (.int (0 : Int32)) 1)
  refine Goes.via st1 ?_
  show Goes p e below (T1.setTop (mkF m 3 #[.val (.ref a1), .val (.int (0 : Int32)), .val (.int (1 : Int32)), .unset, .unset, .unset] [(.ref b1)])) _
  refine Goes.via (fun t k => XS.astoreN X1.here hx rfl (hb hby d5_u_3) rfl rfl (l' := #[.val (.ref a1), .val (.int (0 : Int32)), .val (.int (1 : Int32)), .val (.ref b1), .unset, .unset]) rfl k) ?_
  show Goes p e below (T1.setTop (mkF m 4 #[.val (.ref a1), .val (.int (0 : Int32)), .val (.int (1 : Int32)), .val (.ref b1), .unset, .unset] [])) _
  refine Goes.via (fun t k => XS.aloadN X1.here hx rfl (hb hby d5_u_4) rfl rfl k) ?_
  show Goes p e below (T1.setTop (mkF m 5 #[.val (.ref a1), .val (.int (0 : Int32)), .val (.int (1 : Int32)), .val (.ref b1), .unset, .unset] [(.ref a1)])) _
  refine Goes.via (fun t k => XS.iloadN X1.here hx rfl (hb hby d5_u_5) rfl k) ?_
  show Goes p e below (T1.setTop (mkF m 6 #[.val (.ref a1), .val (.int (0 : Int32)), .val (.int (1 : Int32)), .val (.ref b1), .unset, .unset] [(.int (0 : Int32)), (.ref a1)])) _
  refine Goes.via (fun t k => XS.aloadN X1.here hx rfl (hb hby d5_u_6) rfl rfl k) ?_
  show Goes p e below (T1.setTop (mkF m 7 #[.val (.ref a1), .val (.int (0 : Int32)), .val (.int (1 : Int32)), .val (.ref b1), .unset, .unset] [(.ref b1), (.int (0 : Int32)), (.ref a1)])) _
  refine Goes.via (fun t k => XS.iconst X1.here hx rfl (hb hby d5_u_7) k) ?_
  show Goes p e below (T1.setTop (mkF m 8 #[.val (.ref a1), .val (.int (0 : Int32)), .val (.int (1 : Int32)), .val (.ref b1), .unset, .unset] [(.int (0 : Int32)), (.ref b1), (.int (0 : Int32)), (.ref a1)])) _
  refine Goes.via (fun t k => XS.iloadN X1.here hx rfl (hb hby d5_u_8) rfl k) ?_
  show Goes p e below (T1.setTop (mkF m 9 #[.val (.ref a1), .val (.int (0 : Int32)), .val (.int (1 : Int32)), .val (.ref b1), .unset, .unset] [(.int (1 : Int32)), (.int (0 : Int32)), (.ref b1), (.int (0 : Int32)), (.ref a1)])) _
  obtain ⟨_, _, ⟨T2, L2, k2, n2⟩, -, X2, ⟨Lc2, hQ2, l2, y2, z2⟩, st2⟩ := Jvm.LawKit.callS X1 hx (y := (⟨"java/lang/StringUTF16", "compress", "([CI[BII)I"⟩ : MethodName)) hown (mvT hZ (hw _ (List.mem_of_getElem? (i := 25) rfl))) (mvT hZ (hw _ (List.mem_of_getElem? (i := 26) rfl))) (mvT hZ (hw _ (List.mem_of_getElem? (i := 22) rfl))) (mvT hZ (hw _ (List.mem_of_getElem? (i := 27) rfl))) (by decide) (backOf (W := 0) (rm6_u l Z a0 hw [] a1 b1 k1 c0 h1 n0 Z1 F1_8 hc0) hZ (hw _ (List.mem_of_getElem? (i := 27) rfl)) (hw _ (List.mem_of_getElem? (i := 22) rfl)) (by decide) (by decide)) (g := (mkF m 9 #[.val (.ref a1), .val (.int (0 : Int32)), .val (.int (1 : Int32)), .val (.ref b1), .unset, .unset] [(.int (1 : Int32)), (.int (0 : Int32)), (.ref b1), (.int (0 : Int32)), (.ref a1)])) rfl (by rw [hml]; rfl) (argsL := [(.ref a1), (.int (0 : Int32)), (.ref b1), (.int (0 : Int32)), (.int (1 : Int32))]) (rest := []) (lenOf pd_5_u_0 rfl) rfl (by show 2 * 0 + _ ≤ _; exact Nat.le_of_eq rfl) (hb hby d5_u_9) (fun _ _ => ⟨rfl, e1, (by decide : 1 + 0 ≤ _), (by decide : 1 + 0 ≤ _)⟩)
  dsimp only [Pt.U, Pt.locs, Pt.cells, Pt.slots] at X2 l2 y2 z2 st2 hQ2
  subst l2 y2 z2
  obtain ⟨rfl, N2q, er2⟩ := hQ2
  have e2 : T2.heap = h1 := er2
  have N2 := Fr.app N0 N2q
  refine Goes.via st2 ?_
  show Goes p e below (T2.setTop (mkF m 12 #[.val (.ref a1), .val (.int (0 : Int32)), .val (.int (1 : Int32)), .val (.ref b1), .unset, .unset] [(.int (0 : Int32))])) _
  refine Goes.via (fun t k => XS.istore X2.here hx rfl (hb hby d5_u_12) rfl (l' := #[.val (.ref a1), .val (.int (0 : Int32)), .val (.int (1 : Int32)), .val (.ref b1), .val (.int (0 : Int32)), .unset]) rfl k) ?_
  show Goes p e below (T2.setTop (mkF m 14 #[.val (.ref a1), .val (.int (0 : Int32)), .val (.int (1 : Int32)), .val (.ref b1), .val (.int (0 : Int32)), .unset] [])) _
  refine Goes.via (fun t k => XS.iload X2.here hx rfl (hb hby d5_u_14) rfl k) ?_
  show Goes p e below (T2.setTop (mkF m 16 #[.val (.ref a1), .val (.int (0 : Int32)), .val (.int (1 : Int32)), .val (.ref b1), .val (.int (0 : Int32)), .unset] [(.int (0 : Int32))])) _
  refine Goes.via (fun t k => XS.iloadN X2.here hx rfl (hb hby d5_u_16) rfl k) ?_
  show Goes p e below (T2.setTop (mkF m 17 #[.val (.ref a1), .val (.int (0 : Int32)), .val (.int (1 : Int32)), .val (.ref b1), .val (.int (0 : Int32)), .unset] [(.int (1 : Int32)), (.int (0 : Int32))])) _
  refine Goes.via (fun t k => XS.icmpNo X2.here hx rfl (hb hby d5_u_17) rfl (feq (show ¬ ((0 : Int32) = (1 : Int32)) from (by decide))).1 k) ?_
  show Goes p e below (T2.setTop (mkF m 20 #[.val (.ref a1), .val (.int (0 : Int32)), .val (.int (1 : Int32)), .val (.ref b1), .val (.int (0 : Int32)), .unset] [])) _
  refine Goes.via (fun t k => XS.aloadN X2.here hx rfl (hb hby d5_u_20) rfl rfl k) ?_
  show Goes p e below (T2.setTop (mkF m 21 #[.val (.ref a1), .val (.int (0 : Int32)), .val (.int (1 : Int32)), .val (.ref b1), .val (.int (0 : Int32)), .unset] [(.ref a1)])) _
  refine Goes.via (fun t k => XS.iloadN X2.here hx rfl (hb hby d5_u_21) rfl k) ?_
  show Goes p e below (T2.setTop (mkF m 22 #[.val (.ref a1), .val (.int (0 : Int32)), .val (.int (1 : Int32)), .val (.ref b1), .val (.int (0 : Int32)), .unset] [(.int (0 : Int32)), (.ref a1)])) _
  refine Goes.via (fun t k => XS.iloadN X2.here hx rfl (hb hby d5_u_22) rfl k) ?_
  show Goes p e below (T2.setTop (mkF m 23 #[.val (.ref a1), .val (.int (0 : Int32)), .val (.int (1 : Int32)), .val (.ref b1), .val (.int (0 : Int32)), .unset] [(.int (1 : Int32)), (.int (0 : Int32)), (.ref a1)])) _
  obtain ⟨Lw3, X3w, N3w⟩ := ownPack X2 N2
  obtain ⟨_, _, ⟨T4, L4, k4, n4⟩, -, X4, ⟨Lc4, hQ4, l4, y4, z4⟩, st4⟩ := Jvm.LawKit.callS X3w hx (y := (⟨"java/lang/StringUTF16", "toBytes", "([CII)[B"⟩ : MethodName)) hown (mvT hZ (hw _ (List.mem_of_getElem? (i := 62) rfl))) (mvT hZ (hw _ (List.mem_of_getElem? (i := 63) rfl))) (mvT hZ (hw _ (List.mem_of_getElem? (i := 22) rfl))) (mvT hZ (hw _ (List.mem_of_getElem? (i := 64) rfl))) (by decide) (backOf (W := 0) (rm11 l Z a0 hw [] a1 k1 c0 w0 h1 n0 Z1 F1_8 O1 St) hZ (hw _ (List.mem_of_getElem? (i := 64) rfl)) (hw _ (List.mem_of_getElem? (i := 22) rfl)) (by decide) (by decide)) (g := (mkF m 23 #[.val (.ref a1), .val (.int (0 : Int32)), .val (.int (1 : Int32)), .val (.ref b1), .val (.int (0 : Int32)), .unset] [(.int (1 : Int32)), (.int (0 : Int32)), (.ref a1)])) rfl (by rw [hml]; rfl) (argsL := [(.ref a1), (.int (0 : Int32)), (.int (1 : Int32))]) (rest := []) (lenOf pd_5_u_1 rfl) rfl (by show 2 * 0 + _ ≤ _; exact Nat.le_of_eq rfl) (hb hby d5_u_23) (fun _ _ => ⟨rfl, e2, (by decide : 1 + 1 ≤ _), (by decide : 1 + 2 ≤ _)⟩)
  dsimp only [Pt.U, Pt.locs, Pt.cells, Pt.slots] at X4 l4 y4 z4 st4 hQ4
  subst l4 y4 z4
  obtain ⟨t4, kt4, rfl, N4q, gt4, zt4, Kc4, Vc4⟩ := hQ4
  have lt_a1_t4 : a1 < t4 := Nat.lt_of_lt_of_le F1_8.lt zt4
  have lt_b1_t4 : b1 < t4 := Nat.lt_of_lt_of_le V1.lt zt4
  have sz_t4 : h0.size ≤ t4 := Nat.le_trans K1.1 zt4
  have F4_57 := F1_8.keep Kc4 List.not_mem_nil
  have F4_58 := V1.keep Kc4 List.not_mem_nil
  have K4 : Keep h0 T4.heap [] := K1.trans Kc4 (fun x hx => nomatch hx)
  have Z4 : n0 ≤ T4.heap.size := Nat.le_trans Z1 Kc4.1
  have O4 := O1.keep Kc4 (fun x hx => nomatch hx)
  have N4 := Fr.app N3w N4q
  refine Goes.via st4 ?_
  show Goes p e below (T4.setTop (mkF m 26 #[.val (.ref a1), .val (.int (0 : Int32)), .val (.int (1 : Int32)), .val (.ref b1), .val (.int (0 : Int32)), .unset] [(.ref t4)])) _
  refine Goes.via (fun t k => XS.astore X4.here hx rfl (hb hby d5_u_26) rfl rfl (l' := #[.val (.ref a1), .val (.int (0 : Int32)), .val (.int (1 : Int32)), .val (.ref b1), .val (.int (0 : Int32)), .val (.ref t4)]) rfl k) ?_
  show Goes p e below (T4.setTop (mkF m 28 #[.val (.ref a1), .val (.int (0 : Int32)), .val (.int (1 : Int32)), .val (.ref b1), .val (.int (0 : Int32)), .val (.ref t4)] [])) _
  refine Goes.via (fun t k => XS.aload X4.here hx rfl (hb hby d5_u_28) rfl rfl k) ?_
  show Goes p e below (T4.setTop (mkF m 30 #[.val (.ref a1), .val (.int (0 : Int32)), .val (.int (1 : Int32)), .val (.ref b1), .val (.int (0 : Int32)), .val (.ref t4)] [(.ref t4)])) _
  refine Goes.via (fun t k => XS.iload X4.here hx rfl (hb hby d5_u_30) rfl k) ?_
  show Goes p e below (T4.setTop (mkF m 32 #[.val (.ref a1), .val (.int (0 : Int32)), .val (.int (1 : Int32)), .val (.ref b1), .val (.int (0 : Int32)), .val (.ref t4)] [(.int (0 : Int32)), (.ref t4)])) _
  obtain ⟨Lw5, X5w, N5w⟩ := ownPack X4 N4
  obtain ⟨_, _, ⟨T6, L6, k6, n6⟩, -, X6, ⟨Lc6, hQ6, l6, y6, z6⟩, st6⟩ := Jvm.LawKit.callS X5w hx (y := (⟨"java/lang/StringUTF16", "getChar", "([BI)C"⟩ : MethodName)) hown (mvT hZ (hw _ (List.mem_of_getElem? (i := 78) rfl))) (mvT hZ (hw _ (List.mem_of_getElem? (i := 79) rfl))) (mvT hZ (hw _ (List.mem_of_getElem? (i := 22) rfl))) (mvT hZ (hw _ (List.mem_of_getElem? (i := 80) rfl))) (by decide) (backOf (W := 0) (rm15 l Z a0 hw [] t4 kt4 (nar .byte ((c0 >>> ((0 : Int32) &&& 31)).toInt8.toInt32)) (nar .byte ((c0 >>> ((8 : Int32) &&& 31)).toInt8.toInt32)) w0 T4.heap n0 Z4 Vc4 O4 St) hZ (hw _ (List.mem_of_getElem? (i := 80) rfl)) (hw _ (List.mem_of_getElem? (i := 22) rfl)) (by decide) (by decide)) (g := (mkF m 32 #[.val (.ref a1), .val (.int (0 : Int32)), .val (.int (1 : Int32)), .val (.ref b1), .val (.int (0 : Int32)), .val (.ref t4)] [(.int (0 : Int32)), (.ref t4)])) rfl (by rw [hml]; rfl) (argsL := [(.ref t4), (.int (0 : Int32))]) (rest := []) (lenOf pd_5_u_2 rfl) rfl (by show 2 * 0 + _ ≤ _; exact Nat.le_of_eq rfl) (hb hby d5_u_32) (fun _ _ => ⟨rfl, rfl, (by decide : 2 + 0 ≤ _), (by decide : 3 + 0 ≤ _)⟩)
  dsimp only [Pt.U, Pt.locs, Pt.cells, Pt.slots] at X6 l6 y6 z6 st6 hQ6
  subst l6 y6 z6
  obtain ⟨rfl, N6q, er6⟩ := hQ6
  have e6 : T6.heap = T4.heap := er6
  have N6 := Fr.app N5w N6q
  refine Goes.via st6 ?_
  show Goes p e below (T6.setTop (mkF m 35 #[.val (.ref a1), .val (.int (0 : Int32)), .val (.int (1 : Int32)), .val (.ref b1), .val (.int (0 : Int32)), .val (.ref t4)] [(.int (nar .char ((((((nar .byte ((c0 >>> ((0 : Int32) &&& 31)).toInt8.toInt32)) &&& (255 : Int32)) <<< ((0 : Int32) &&& 31)) ||| (((nar .byte ((c0 >>> ((8 : Int32) &&& 31)).toInt8.toInt32)) &&& (255 : Int32)) <<< ((8 : Int32) &&& 31)))).toUInt32.toUInt16.toUInt32.toInt32)))])) _
  refine Goes.via (fun t k => XS.sipush X6.here hx rfl (hb hby d5_u_35) k) ?_
  show Goes p e below (T6.setTop (mkF m 38 #[.val (.ref a1), .val (.int (0 : Int32)), .val (.int (1 : Int32)), .val (.ref b1), .val (.int (0 : Int32)), .val (.ref t4)] [(.int (255 : Int32)), (.int (nar .char ((((((nar .byte ((c0 >>> ((0 : Int32) &&& 31)).toInt8.toInt32)) &&& (255 : Int32)) <<< ((0 : Int32) &&& 31)) ||| (((nar .byte ((c0 >>> ((8 : Int32) &&& 31)).toInt8.toInt32)) &&& (255 : Int32)) <<< ((8 : Int32) &&& 31)))).toUInt32.toUInt16.toUInt32.toInt32)))])) _
  have hc38_7 : (255 : Int32) < (nar .char ((((((nar .byte ((c0 >>> ((0 : Int32) &&& 31)).toInt8.toInt32)) &&& (255 : Int32)) <<< ((0 : Int32) &&& 31)) ||| (((nar .byte ((c0 >>> ((8 : Int32) &&& 31)).toInt8.toInt32)) &&& (255 : Int32)) <<< ((8 : Int32) &&& 31)))).toUInt32.toUInt16.toUInt32.toInt32)) := (own_big hr0 hc0)
  refine Goes.via (fun t k => XS.icmpYes X6.here hx rfl (pc0 := 38) (pc' := 54) rfl (hb hby d5_u_38) rfl (tlt hc38_7).2.2.1 (by decide) (by decide) k) ?_
  show Goes p e below (T6.setTop (mkF m 54 #[.val (.ref a1), .val (.int (0 : Int32)), .val (.int (1 : Int32)), .val (.ref b1), .val (.int (0 : Int32)), .val (.ref t4)] [])) _
  refine Goes.via (fun t k => XS.aload X6.here hx rfl (hb hby d5_u_54) rfl rfl k) ?_
  show Goes p e below (T6.setTop (mkF m 56 #[.val (.ref a1), .val (.int (0 : Int32)), .val (.int (1 : Int32)), .val (.ref b1), .val (.int (0 : Int32)), .val (.ref t4)] [(.ref t4)])) _
  obtain ⟨fs, hr, hrun, hended, hW, hsame⟩ := X6.leave (v := some (.ref t4)) (fun h => by rw [Bd.returns] at h; cases h)
  refine ⟨_, _, ?_, hrun, hended, _, _, rfl, ?_, ⟨_, rfl⟩, hW, hsame.mono (by decide) (by decide)⟩
  · exact retOut X6 hx (t := (.array .byte)) Bd.returns rfl (Or.inr (Or.inr (Or.inr (Or.inr ⟨rfl, rfl, rfl⟩)))) (hb hby d5_u_56) hr
  · show Q5_u Z c0 h0 n0 _ T6.heap _
    rw [e6]
    exact ⟨t4, _, rfl, N6, gt4, sz_t4, K4, Vc4⟩
theorem d7_u_0 : decode jdk_52_method_15_code 0 = .ok (.iload_n 1, 1) := by decide +kernel
theorem d7_u_1 : decode jdk_52_method_15_code 1 = .ok (.aload_n 0, 1) := by decide +kernel
theorem d7_u_2 : decode jdk_52_method_15_code 2 = .ok (.arraylength, 1) := by decide +kernel
theorem d7_u_3 : decode jdk_52_method_15_code 3 = .ok (.isub, 1) := by decide +kernel
theorem d7_u_4 : decode jdk_52_method_15_code 4 = .ok (.bipush 31, 2) := by decide +kernel
theorem d7_u_6 : decode jdk_52_method_15_code 6 = .ok (.iushr, 1) := by decide +kernel
theorem d7_u_7 : decode jdk_52_method_15_code 7 = .ok (.i2b, 1) := by decide +kernel
theorem d7_u_8 : decode jdk_52_method_15_code 8 = .ok (.ireturn, 1) := by decide +kernel
theorem pn_7_u : plainName "java/lang/StringUTF16" = true := by first | (simp [plainName, overriddenIn]; done) | decide +kernel
theorem ef_7_u (m : MethodId) (x0 : Addr) : entryFrame m #[(.ref x0), (.int (1 : Int32))] 2 = mkF m 0 #[.val (.ref x0), .val (.int (1 : Int32))] [] := by first | (simp [entryFrame, mkF, argsToLocals, Value.category]; done) | rfl
def Q7_u (Z : State) (h0 : Heap) (n0 : Nat) (v : Option Value) (h : Heap) (L : List Loc) : Prop := v = some (.int (1 : Int32)) ∧ Fr n0 L ∧ h = h0
set_option maxRecDepth 65536 in
set_option maxHeartbeats 40000000 in
theorem rm7_u (l : Launch) (Z : State) (a0 : Array Value) (hw : ∀ d ∈ tables_1, d.before a0 Z = true) (ws : List Jvm.Cond) (a1 : Addr) (k1 : ClassId) (vs : List Value) (h0 : Heap) (n0 : Nat) (Z0 : n0 ≤ h0.size) (V1 : Arv Z h0 a1 k1 .byte (2 : Int32) vs (.int (0 : Int32))) :
    MetFree l (⟨"java/lang/StringUTF16", "coderFromArrayLen", "([BI)B"⟩ : MethodName) (head1 (Jvm.Cond.code (⟨"java/lang/StringUTF16", "coderFromArrayLen", "([BI)B"⟩ : MethodName) jdk_52_method_15_code 2 (some .byte) :: ws) ({ frames := 0, cells := 0, slots := 0, locals := 0 } : Room)) (fun a U => a = #[(.ref a1), (.int (1 : Int32))] ∧ Z.Warmed39 U.vm ∧ U.heap = h0) (fun _ _ _ _ _ => True) (fun _ U o U' => ∃ v L, o = .returned v ∧ Q7_u Z  h0 n0 v U'.heap L ∧ FrameEnd U o U' L ({ frames := 0, cells := 0, slots := 0, locals := 0 } : Room).cells ({ frames := 0, cells := 0, slots := 0, locals := 0 } : Room).slots) := by
  refine MetFree.of_bodySF (plainFor_of_name pn_7_u) hisR ?_
  intro p e s m args below meth c s₁ Bd hml0 hP hK
  obtain ⟨rfl, hZ, hh⟩ := hP
  have hx := Bd.exec
  have hby := Bd.bytes
  have hml : c.maxLocals = 2 := hml0
  have hown : s.vm.findClass "java/lang/StringUTF16" = some m.cls := findClass_of_methodNamed Bd.named
  have hnm := (name_of_methodNamed Bd.named Bd.method).1
  have X0 : Stand p l e ({ frames := 0, cells := 0, slots := 0, locals := 0 } : Room) s m #[(.ref a1), (.int (1 : Int32))] below meth c s₁ [] 0 0 := Stand.of_body Bd
  have e0 : s₁.heap = h0 := by rw [← hh, Bd.state]; rfl
  have N0 := Fr.nil n0
  refine Goes.via (next := s₁.setTop (mkF m 0 #[.val (.ref a1), .val (.int (1 : Int32))] [])) (fun t k => castTop (ef_7_u m a1) k) ?_
  refine Goes.via (fun t k => XS.iloadN X0.here hx rfl (hb hby d7_u_0) rfl k) ?_
  show Goes p e below (s₁.setTop (mkF m 1 #[.val (.ref a1), .val (.int (1 : Int32))] [(.int (1 : Int32))])) _
  refine Goes.via (fun t k => XS.aloadN X0.here hx rfl (hb hby d7_u_1) rfl rfl k) ?_
  show Goes p e below (s₁.setTop (mkF m 2 #[.val (.ref a1), .val (.int (1 : Int32))] [(.ref a1), (.int (1 : Int32))])) _
  obtain ⟨cl1, Ar1, -, Sa1, Na1, -, -⟩ := id V1
  refine Goes.via (next := s₁.setTop (mkF m 3 #[.val (.ref a1), .val (.int (1 : Int32))] [(.int (2 : Int32)), (.int (1 : Int32))])) (fun t k => X0.arraylength hx (by rw [e0]; exact Ar1.1) (State.isArrayOf_alike hZ.alike Ar1.2.1) (g := (mkF m 2 #[.val (.ref a1), .val (.int (1 : Int32))] [(.ref a1), (.int (1 : Int32))])) rfl rfl (hb hby d7_u_2) _ (by rw [len_of Sa1 Na1]; exact k)) ?_
  show Goes p e below (s₁.setTop (mkF m 3 #[.val (.ref a1), .val (.int (1 : Int32))] [(.int (2 : Int32)), (.int (1 : Int32))])) _
  refine Goes.via (fun t k => XS.isub X0.here hx rfl (hb hby d7_u_3) rfl k) ?_
  show Goes p e below (s₁.setTop (mkF m 4 #[.val (.ref a1), .val (.int (1 : Int32))] [(.int (-1 : Int32))])) _
  refine Goes.via (fun t k => XS.bipush X0.here hx rfl (hb hby d7_u_4) k) ?_
  show Goes p e below (s₁.setTop (mkF m 6 #[.val (.ref a1), .val (.int (1 : Int32))] [(.int (31 : Int32)), (.int (-1 : Int32))])) _
  refine Goes.via (fun t k => XS.iushr X0.here hx rfl (hb hby d7_u_6) rfl k) ?_
  show Goes p e below (s₁.setTop (mkF m 7 #[.val (.ref a1), .val (.int (1 : Int32))] [(.int (1 : Int32))])) _
  refine Goes.via (fun t k => XS.i2b X0.here hx rfl (hb hby d7_u_7) rfl k) ?_
  show Goes p e below (s₁.setTop (mkF m 8 #[.val (.ref a1), .val (.int (1 : Int32))] [(.int (1 : Int32))])) _
  obtain ⟨fs, hr, hrun, hended, hW, hsame⟩ := X0.leave (v := some (.int (1 : Int32))) (fun h => by rw [Bd.returns] at h; cases h)
  refine ⟨_, _, ?_, hrun, hended, _, _, rfl, ?_, ⟨_, rfl⟩, hW, hsame.mono (by decide) (by decide)⟩
  · exact retN X0 hx (t := .byte) Bd.returns (by simp) (hb hby d7_u_8) hr
  · show Q7_u Z  h0 n0 _ s₁.heap _
    rw [e0]
    exact ⟨rfl, N0, rfl⟩
theorem d3_u_0 : decode jdk_42_method_149_code 0 = .ok (.aload_n 0, 1) := by decide +kernel
theorem d3_u_1 : decode jdk_42_method_149_code 1 = .ok (.invokespecial 1, 3) := by decide +kernel
theorem d3_u_4 : decode jdk_42_method_149_code 4 = .ok (.iload_n 3, 1) := by decide +kernel
theorem d3_u_5 : decode jdk_42_method_149_code 5 = .ok (.ifCond .ne 22, 3) := by decide +kernel
theorem d3_u_27 : decode jdk_42_method_149_code 27 = .ok (.getstatic 38, 3) := by decide +kernel
theorem d3_u_30 : decode jdk_42_method_149_code 30 = .ok (.ifCond .eq 28, 3) := by decide +kernel
theorem d3_u_33 : decode jdk_42_method_149_code 33 = .ok (.aload_n 1, 1) := by decide +kernel
theorem d3_u_34 : decode jdk_42_method_149_code 34 = .ok (.iload_n 2, 1) := by decide +kernel
theorem d3_u_35 : decode jdk_42_method_149_code 35 = .ok (.iload_n 3, 1) := by decide +kernel
theorem d3_u_36 : decode jdk_42_method_149_code 36 = .ok (.invokestatic 177, 3) := by decide +kernel
theorem d3_u_39 : decode jdk_42_method_149_code 39 = .ok (.astore 5, 2) := by decide +kernel
theorem d3_u_41 : decode jdk_42_method_149_code 41 = .ok (.aload_n 0, 1) := by decide +kernel
theorem d3_u_42 : decode jdk_42_method_149_code 42 = .ok (.aload 5, 2) := by decide +kernel
theorem d3_u_44 : decode jdk_42_method_149_code 44 = .ok (.iload_n 3, 1) := by decide +kernel
theorem d3_u_45 : decode jdk_42_method_149_code 45 = .ok (.invokestatic 47, 3) := by decide +kernel
theorem d3_u_48 : decode jdk_42_method_149_code 48 = .ok (.putfield 15, 3) := by decide +kernel
theorem d3_u_51 : decode jdk_42_method_149_code 51 = .ok (.aload_n 0, 1) := by decide +kernel
theorem d3_u_52 : decode jdk_42_method_149_code 52 = .ok (.aload 5, 2) := by decide +kernel
theorem d3_u_54 : decode jdk_42_method_149_code 54 = .ok (.putfield 9, 3) := by decide +kernel
theorem d3_u_57 : decode jdk_42_method_149_code 57 = .ok (.return_, 1) := by decide +kernel
theorem pn_3_u : plainName "java/lang/String" = true := by first | (simp [plainName, overriddenIn]; done) | decide +kernel
theorem pd_3_u_0 : parseMethodDescriptor "([CII)[B" = some ⟨[(.array .char), .int, .int], some (.array .byte)⟩ := by decide +kernel
theorem pd_3_u_1 : parseMethodDescriptor "([BI)B" = some ⟨[(.array .byte), .int], some .byte⟩ := by decide +kernel
theorem ef_3_u (m : MethodId) (x0 : Addr) (x1 : Addr) : entryFrame m #[(.ref x0), (.ref x1), (.int (0 : Int32)), (.int (1 : Int32)), .null] 6 = mkF m 0 #[.val (.ref x0), .val (.ref x1), .val (.int (0 : Int32)), .val (.int (1 : Int32)), .val .null, .unset] [] := by first | (simp [entryFrame, mkF, argsToLocals, Value.category]; done) | rfl
def Q3_u (Z : State) (a1 : Addr) (h0 : Heap) (n0 : Nat) (v : Option Value) (h : Heap) (L : List Loc) : Prop := v = none ∧ Fr n0 L ∧ Keep h0 h [a1]
set_option maxRecDepth 65536 in
set_option maxHeartbeats 40000000 in
theorem rm3_u (l : Launch) (Z : State) (a0 : Array Value) (hw : ∀ d ∈ tables_1, d.before a0 Z = true) (ws : List Jvm.Cond) (a1 : Addr) (a2 : Addr) (k2 : ClassId) (c0 : Int32) (w0 : Int32) (h0 : Heap) (n0 : Nat) (Z0 : n0 ≤ h0.size) (E1 : Exa Z h0 a1 "java/lang/String") (Fv : Fld Z h0 a1 "java/lang/String" "value" "[B" .null) (Fc : Fld Z h0 a1 "java/lang/String" "coder" "B" (.int (0 : Int32))) (V2 : Arv Z h0 a2 k2 .char (1 : Int32) [(.int c0)] (.int (0 : Int32))) (g1 : n0 ≤ a1) (ne12 : a1 ≠ a2) (O0 : Old Z n0 h0) (St : own_St Z w0) (hc0 : (255 : Int32) < c0) (hr0 : 0 ≤ c0.toInt ∧ c0.toInt < 65536) :
    MetFree l (⟨"java/lang/String", "<init>", "([CIILjava/lang/Void;)V"⟩ : MethodName) (head1 (Jvm.Cond.code (⟨"java/lang/String", "<init>", "([CIILjava/lang/Void;)V"⟩ : MethodName) jdk_42_method_149_code 6 none :: ws) ({ frames := 4, cells := 2, slots := 3, locals := 57 } : Room)) (fun a U => a = #[(.ref a1), (.ref a2), (.int (0 : Int32)), (.int (1 : Int32)), .null] ∧ Z.Warmed39 U.vm ∧ U.heap = h0) (fun _ _ _ _ _ => True) (fun _ U o U' => ∃ v L, o = .returned v ∧ Q3_u Z a1 h0 n0 v U'.heap L ∧ FrameEnd U o U' L ({ frames := 4, cells := 2, slots := 3, locals := 57 } : Room).cells ({ frames := 4, cells := 2, slots := 3, locals := 57 } : Room).slots) := by
  refine MetFree.of_bodySF (plainFor_of_name pn_3_u) hisR ?_
  intro p e s m args below meth c s₁ Bd hml0 hP hK
  obtain ⟨rfl, hZ, hh⟩ := hP
  have hx := Bd.exec
  have hby := Bd.bytes
  have hml : c.maxLocals = 6 := hml0
  have hown : s.vm.findClass "java/lang/String" = some m.cls := findClass_of_methodNamed Bd.named
  have hnm := (name_of_methodNamed Bd.named Bd.method).1
  have X0 : Stand p l e ({ frames := 4, cells := 2, slots := 3, locals := 57 } : Room) s m #[(.ref a1), (.ref a2), (.int (0 : Int32)), (.int (1 : Int32)), .null] below meth c s₁ [] 0 0 := Stand.of_body Bd
  have e0 : s₁.heap = h0 := by rw [← hh, Bd.state]; rfl
  have N0 := Fr.nil n0
  refine Goes.via (next := s₁.setTop (mkF m 0 #[.val (.ref a1), .val (.ref a2), .val (.int (0 : Int32)), .val (.int (1 : Int32)), .val .null, .unset] [])) (fun t k => castTop (ef_3_u m a1 a2) k) ?_
  refine Goes.via (fun t k => XS.aloadN X0.here hx rfl (hb hby d3_u_0) rfl rfl k) ?_
  show Goes p e below (s₁.setTop (mkF m 1 #[.val (.ref a1), .val (.ref a2), .val (.int (0 : Int32)), .val (.int (1 : Int32)), .val .null, .unset] [(.ref a1)])) _
  obtain ⟨T1, X1, e1, st1⟩ := initO X0 hx hZ hown (hw _ (List.mem_of_getElem? (i := 16) rfl)) (hw _ (List.mem_of_getElem? (i := 17) rfl)) (hw _ (List.mem_of_getElem? (i := 18) rfl)) e0 (g := (mkF m 1 #[.val (.ref a1), .val (.ref a2), .val (.int (0 : Int32)), .val (.int (1 : Int32)), .val .null, .unset] [(.ref a1)])) rfl (by rw [hml]; rfl) rfl (hb hby d3_u_1) (by decide) (W := 0) (by show 2 * 0 + _ ≤ _; exact Nat.le_of_eq rfl) (by decide)
  refine Goes.via st1 ?_
  show Goes p e below (T1.setTop (mkF m 4 #[.val (.ref a1), .val (.ref a2), .val (.int (0 : Int32)), .val (.int (1 : Int32)), .val .null, .unset] [])) _
  refine Goes.via (fun t k => XS.iloadN X1.here hx rfl (hb hby d3_u_4) rfl k) ?_
  show Goes p e below (T1.setTop (mkF m 5 #[.val (.ref a1), .val (.ref a2), .val (.int (0 : Int32)), .val (.int (1 : Int32)), .val .null, .unset] [(.int (1 : Int32))])) _
  refine Goes.via (fun t k => XS.ifYes X1.here hx rfl (pc0 := 5) (pc' := 27) rfl (hb hby d3_u_5) rfl ((if0 _ _).trans (feq (show ¬ ((1 : Int32) = (0 : Int32)) from (by decide))).2) (by decide) (by decide) k) ?_
  show Goes p e below (T1.setTop (mkF m 27 #[.val (.ref a1), .val (.ref a2), .val (.int (0 : Int32)), .val (.int (1 : Int32)), .val .null, .unset] [])) _
  obtain ⟨T2, X2, e2, st2⟩ := getS2 X1 hx hZ hown (host := "") (Or.inl (hw _ (List.mem_of_getElem? (i := 19) rfl))) Via.refl e1 (St.1.ext O0.2) (g := (mkF m 27 #[.val (.ref a1), .val (.ref a2), .val (.int (0 : Int32)), .val (.int (1 : Int32)), .val .null, .unset] [])) rfl (hb hby d3_u_27)
  refine Goes.via st2 ?_
  show Goes p e below (T2.setTop (mkF m 30 #[.val (.ref a1), .val (.ref a2), .val (.int (0 : Int32)), .val (.int (1 : Int32)), .val .null, .unset] [(.int w0)])) _
  have hc30_3 : ¬ (w0 = (0 : Int32)) := St.2.1
  refine Goes.via (fun t k => XS.ifNo X2.here hx rfl (hb hby d3_u_30) rfl ((if0 _ _).trans (feq hc30_3).1) k) ?_
  show Goes p e below (T2.setTop (mkF m 33 #[.val (.ref a1), .val (.ref a2), .val (.int (0 : Int32)), .val (.int (1 : Int32)), .val .null, .unset] [])) _
  refine Goes.via (fun t k => XS.aloadN X2.here hx rfl (hb hby d3_u_33) rfl rfl k) ?_
  show Goes p e below (T2.setTop (mkF m 34 #[.val (.ref a1), .val (.ref a2), .val (.int (0 : Int32)), .val (.int (1 : Int32)), .val .null, .unset] [(.ref a2)])) _
  refine Goes.via (fun t k => XS.iloadN X2.here hx rfl (hb hby d3_u_34) rfl k) ?_
  show Goes p e below (T2.setTop (mkF m 35 #[.val (.ref a1), .val (.ref a2), .val (.int (0 : Int32)), .val (.int (1 : Int32)), .val .null, .unset] [(.int (0 : Int32)), (.ref a2)])) _
  refine Goes.via (fun t k => XS.iloadN X2.here hx rfl (hb hby d3_u_35) rfl k) ?_
  show Goes p e below (T2.setTop (mkF m 36 #[.val (.ref a1), .val (.ref a2), .val (.int (0 : Int32)), .val (.int (1 : Int32)), .val .null, .unset] [(.int (1 : Int32)), (.int (0 : Int32)), (.ref a2)])) _
  obtain ⟨_, _, ⟨T4, L4, k4, n4⟩, -, X4, ⟨Lc4, hQ4, l4, y4, z4⟩, st4⟩ := Jvm.LawKit.callS X2 hx (y := (⟨"java/lang/StringUTF16", "compress", "([CII)[B"⟩ : MethodName)) hown (mvT hZ (hw _ (List.mem_of_getElem? (i := 20) rfl))) (mvT hZ (hw _ (List.mem_of_getElem? (i := 21) rfl))) (mvT hZ (hw _ (List.mem_of_getElem? (i := 22) rfl))) (mvT hZ (hw _ (List.mem_of_getElem? (i := 23) rfl))) (by decide) (backOf (W := 0) (rm5_u l Z a0 hw [] a2 k2 c0 w0 h0 n0 Z0 V2 hc0 hr0 O0 St) hZ (hw _ (List.mem_of_getElem? (i := 23) rfl)) (hw _ (List.mem_of_getElem? (i := 22) rfl)) (by decide) (by decide)) (g := (mkF m 36 #[.val (.ref a1), .val (.ref a2), .val (.int (0 : Int32)), .val (.int (1 : Int32)), .val .null, .unset] [(.int (1 : Int32)), (.int (0 : Int32)), (.ref a2)])) rfl (by rw [hml]; rfl) (argsL := [(.ref a2), (.int (0 : Int32)), (.int (1 : Int32))]) (rest := []) (lenOf pd_3_u_0 rfl) rfl (by show 2 * 0 + _ ≤ _; exact Nat.le_of_eq rfl) (hb hby d3_u_36) (fun _ _ => ⟨rfl, e2, (by decide : 0 + 2 ≤ _), (by decide : 0 + 3 ≤ _)⟩)
  dsimp only [Pt.U, Pt.locs, Pt.cells, Pt.slots] at X4 l4 y4 z4 st4 hQ4
  subst l4 y4 z4
  obtain ⟨t4, kt4, rfl, N4q, gt4, zt4, Kc4, Vc4⟩ := hQ4
  have lt_a1_t4 : a1 < t4 := Nat.lt_of_lt_of_le E1.lt zt4
  have lt_a2_t4 : a2 < t4 := Nat.lt_of_lt_of_le V2.lt zt4
  have sz_t4 : h0.size ≤ t4 := Nat.le_trans (Keep.refl h0 [a1]).1 zt4
  have F4_28 := E1.keep Kc4
  have F4_29 := Fv.keep Kc4 List.not_mem_nil
  have F4_30 := Fc.keep Kc4 List.not_mem_nil
  have F4_31 := V2.keep Kc4 List.not_mem_nil
  have K4 : Keep h0 T4.heap [a1] := (Keep.refl h0 [a1]).trans Kc4 (fun x hx => nomatch hx)
  have Z4 : n0 ≤ T4.heap.size := Nat.le_trans Z0 Kc4.1
  have O4 := O0.keep Kc4 (fun x hx => nomatch hx)
  have N4 := Fr.app N0 N4q
  refine Goes.via st4 ?_
  show Goes p e below (T4.setTop (mkF m 39 #[.val (.ref a1), .val (.ref a2), .val (.int (0 : Int32)), .val (.int (1 : Int32)), .val .null, .unset] [(.ref t4)])) _
  refine Goes.via (fun t k => XS.astore X4.here hx rfl (hb hby d3_u_39) rfl rfl (l' := #[.val (.ref a1), .val (.ref a2), .val (.int (0 : Int32)), .val (.int (1 : Int32)), .val .null, .val (.ref t4)]) rfl k) ?_
  show Goes p e below (T4.setTop (mkF m 41 #[.val (.ref a1), .val (.ref a2), .val (.int (0 : Int32)), .val (.int (1 : Int32)), .val .null, .val (.ref t4)] [])) _
  refine Goes.via (fun t k => XS.aloadN X4.here hx rfl (hb hby d3_u_41) rfl rfl k) ?_
  show Goes p e below (T4.setTop (mkF m 42 #[.val (.ref a1), .val (.ref a2), .val (.int (0 : Int32)), .val (.int (1 : Int32)), .val .null, .val (.ref t4)] [(.ref a1)])) _
  refine Goes.via (fun t k => XS.aload X4.here hx rfl (hb hby d3_u_42) rfl rfl k) ?_
  show Goes p e below (T4.setTop (mkF m 44 #[.val (.ref a1), .val (.ref a2), .val (.int (0 : Int32)), .val (.int (1 : Int32)), .val .null, .val (.ref t4)] [(.ref t4), (.ref a1)])) _
  refine Goes.via (fun t k => XS.iloadN X4.here hx rfl (hb hby d3_u_44) rfl k) ?_
  show Goes p e below (T4.setTop (mkF m 45 #[.val (.ref a1), .val (.ref a2), .val (.int (0 : Int32)), .val (.int (1 : Int32)), .val .null, .val (.ref t4)] [(.int (1 : Int32)), (.ref t4), (.ref a1)])) _
  obtain ⟨Lw5, X5w, N5w⟩ := ownPack X4 N4
  obtain ⟨_, _, ⟨T6, L6, k6, n6⟩, -, X6, ⟨Lc6, hQ6, l6, y6, z6⟩, st6⟩ := Jvm.LawKit.callS X5w hx (y := (⟨"java/lang/StringUTF16", "coderFromArrayLen", "([BI)B"⟩ : MethodName)) hown (mvT hZ (hw _ (List.mem_of_getElem? (i := 28) rfl))) (mvT hZ (hw _ (List.mem_of_getElem? (i := 29) rfl))) (mvT hZ (hw _ (List.mem_of_getElem? (i := 22) rfl))) (mvT hZ (hw _ (List.mem_of_getElem? (i := 30) rfl))) (by decide) (backOf (W := 1) (rm7_u l Z a0 hw [] t4 kt4 _ T4.heap n0 Z4 Vc4) hZ (hw _ (List.mem_of_getElem? (i := 30) rfl)) (hw _ (List.mem_of_getElem? (i := 22) rfl)) (by decide) (by decide)) (g := (mkF m 45 #[.val (.ref a1), .val (.ref a2), .val (.int (0 : Int32)), .val (.int (1 : Int32)), .val .null, .val (.ref t4)] [(.int (1 : Int32)), (.ref t4), (.ref a1)])) rfl (by rw [hml]; rfl) (argsL := [(.ref t4), (.int (1 : Int32))]) (rest := [(.ref a1)]) (lenOf pd_3_u_1 rfl) rfl (by show 2 * 0 + _ ≤ _; exact Nat.le_of_eq rfl) (hb hby d3_u_45) (fun _ _ => ⟨rfl, rfl, (by decide : 2 + 0 ≤ _), (by decide : 3 + 0 ≤ _)⟩)
  dsimp only [Pt.U, Pt.locs, Pt.cells, Pt.slots] at X6 l6 y6 z6 st6 hQ6
  subst l6 y6 z6
  obtain ⟨rfl, N6q, er6⟩ := hQ6
  have e6 : T6.heap = T4.heap := er6
  have N6 := Fr.app N5w N6q
  refine Goes.via st6 ?_
  show Goes p e below (T6.setTop (mkF m 48 #[.val (.ref a1), .val (.ref a2), .val (.int (0 : Int32)), .val (.int (1 : Int32)), .val .null, .val (.ref t4)] [(.int (1 : Int32)), (.ref a1)])) _
  obtain ⟨T7, h7, X7, e7, W7, st7⟩ := putFN X6 hx hZ hown (hw _ (List.mem_of_getElem? (i := 31) rfl)) Via.refl e6 F4_30 F4_28 (Or.inr ⟨(hw _ (List.mem_of_getElem? (i := 32) rfl)), rfl, hnm⟩) (hw _ (List.mem_of_getElem? (i := 7) rfl)) (ty := .byte) (v' := (.int (1 : Int32))) (by decide) rfl (by decide) (g := (mkF m 48 #[.val (.ref a1), .val (.ref a2), .val (.int (0 : Int32)), .val (.int (1 : Int32)), .val .null, .val (.ref t4)] [(.int (1 : Int32)), (.ref a1)])) rfl rfl (hb hby d3_u_48)
  have Fw7 := F4_30.same W7
  have F7_57 := F4_28.wr W7
  have F7_58 := F4_29.other W7 (Or.inr (slot_ne (Or.inr (hw _ (List.mem_of_getElem? (i := 34) rfl))) (Or.inr (hw _ (List.mem_of_getElem? (i := 32) rfl))) (by decide) (t := (.array .byte)) (t' := .byte) (by decide) (by decide)))
  have F7_59 := F4_31.other W7 (Ne.symm ne12)
  have F7_60 := Vc4.other W7 (Nat.ne_of_gt lt_a1_t4)
  have K7 : Keep h0 h7 [a1] := K4.wr W7 (Or.inl (List.mem_of_getElem? (i := 0) rfl))
  have Z7 : n0 ≤ h7.size := Nat.le_trans Z4 (Keep.of_wr W7).1
  have N7 := Fr.snoc X7 N6 g1
  have O7 := O4.wr W7 g1
  refine Goes.via st7 ?_
  show Goes p e below (T7.setTop (mkF m 51 #[.val (.ref a1), .val (.ref a2), .val (.int (0 : Int32)), .val (.int (1 : Int32)), .val .null, .val (.ref t4)] [])) _
  refine Goes.via (fun t k => XS.aloadN X7.here hx rfl (hb hby d3_u_51) rfl rfl k) ?_
  show Goes p e below (T7.setTop (mkF m 52 #[.val (.ref a1), .val (.ref a2), .val (.int (0 : Int32)), .val (.int (1 : Int32)), .val .null, .val (.ref t4)] [(.ref a1)])) _
  refine Goes.via (fun t k => XS.aload X7.here hx rfl (hb hby d3_u_52) rfl rfl k) ?_
  show Goes p e below (T7.setTop (mkF m 54 #[.val (.ref a1), .val (.ref a2), .val (.int (0 : Int32)), .val (.int (1 : Int32)), .val .null, .val (.ref t4)] [(.ref t4), (.ref a1)])) _
  obtain ⟨T8, h8, X8, e8, W8, st8⟩ := putF X7 hx hZ hown (host := "") (Or.inl (hw _ (List.mem_of_getElem? (i := 33) rfl))) Via.refl e7 F7_58 F7_57 (Or.inr ⟨(hw _ (List.mem_of_getElem? (i := 34) rfl)), rfl, hnm⟩) (hw _ (List.mem_of_getElem? (i := 7) rfl)) (ty := (.array .byte)) (by decide) rfl rfl (g := (mkF m 54 #[.val (.ref a1), .val (.ref a2), .val (.int (0 : Int32)), .val (.int (1 : Int32)), .val .null, .val (.ref t4)] [(.ref t4), (.ref a1)])) rfl rfl (hb hby d3_u_54)
  have Fw8 := F7_58.same W8
  have F8_73 := F7_57.wr W8
  have F8_74 := F7_59.other W8 (Ne.symm ne12)
  have F8_75 := F7_60.other W8 (Nat.ne_of_gt lt_a1_t4)
  have F8_76 := Fw7.other W8 (Or.inr (slot_ne (Or.inr (hw _ (List.mem_of_getElem? (i := 32) rfl))) (Or.inr (hw _ (List.mem_of_getElem? (i := 34) rfl))) (by decide) (t := .byte) (t' := (.array .byte)) (by decide) (by decide)))
  have K8 : Keep h0 h8 [a1] := K7.wr W8 (Or.inl (List.mem_of_getElem? (i := 0) rfl))
  have Z8 : n0 ≤ h8.size := Nat.le_trans Z7 (Keep.of_wr W8).1
  have N8 := Fr.snoc X8 N7 g1
  have O8 := O7.wr W8 g1
  refine Goes.via st8 ?_
  show Goes p e below (T8.setTop (mkF m 57 #[.val (.ref a1), .val (.ref a2), .val (.int (0 : Int32)), .val (.int (1 : Int32)), .val .null, .val (.ref t4)] [])) _
  obtain ⟨fs, hr, hrun, hended, hW, hsame⟩ := X8.leave (v := none) (fun _ => rfl)
  refine ⟨_, _, ?_, hrun, hended, _, _, rfl, ?_, ⟨_, rfl⟩, hW, hsame.mono (by decide) (by decide)⟩
  · exact X8.returnOut hx Bd.returns (hb hby d3_u_57) hr
  · show Q3_u Z a1 h0 n0 _ T8.heap _
    rw [e8]
    exact ⟨rfl, N8, K8⟩
theorem d2_u_0 : decode jdk_42_method_3_code 0 = .ok (.aload_n 0, 1) := by decide +kernel
theorem d2_u_1 : decode jdk_42_method_3_code 1 = .ok (.aload_n 1, 1) := by decide +kernel
theorem d2_u_2 : decode jdk_42_method_3_code 2 = .ok (.iconst 0, 1) := by decide +kernel
theorem d2_u_3 : decode jdk_42_method_3_code 3 = .ok (.aload_n 1, 1) := by decide +kernel
theorem d2_u_4 : decode jdk_42_method_3_code 4 = .ok (.arraylength, 1) := by decide +kernel
theorem d2_u_5 : decode jdk_42_method_3_code 5 = .ok (.aconst_null, 1) := by decide +kernel
theorem d2_u_6 : decode jdk_42_method_3_code 6 = .ok (.invokespecial 27, 3) := by decide +kernel
theorem d2_u_9 : decode jdk_42_method_3_code 9 = .ok (.return_, 1) := by decide +kernel
theorem pn_2_u : plainName "java/lang/String" = true := by first | (simp [plainName, overriddenIn]; done) | decide +kernel
theorem pd_2_u_0 : parseMethodDescriptor "([CIILjava/lang/Void;)V" = some ⟨[(.array .char), .int, .int, (.object "java/lang/Void")], none⟩ := by decide +kernel
theorem ef_2_u (m : MethodId) (x0 : Addr) (x1 : Addr) : entryFrame m #[(.ref x0), (.ref x1)] 2 = mkF m 0 #[.val (.ref x0), .val (.ref x1)] [] := by first | (simp [entryFrame, mkF, argsToLocals, Value.category]; done) | rfl
def Q2_u (Z : State) (a1 : Addr) (h0 : Heap) (n0 : Nat) (v : Option Value) (h : Heap) (L : List Loc) : Prop := v = none ∧ Fr n0 L ∧ Keep h0 h [a1]
set_option maxRecDepth 65536 in
set_option maxHeartbeats 40000000 in
theorem rm2_u (l : Launch) (Z : State) (a0 : Array Value) (hw : ∀ d ∈ tables_1, d.before a0 Z = true) (ws : List Jvm.Cond) (a1 : Addr) (a2 : Addr) (k2 : ClassId) (c0 : Int32) (w0 : Int32) (h0 : Heap) (n0 : Nat) (Z0 : n0 ≤ h0.size) (E1 : Exa Z h0 a1 "java/lang/String") (Fv : Fld Z h0 a1 "java/lang/String" "value" "[B" .null) (Fc : Fld Z h0 a1 "java/lang/String" "coder" "B" (.int (0 : Int32))) (V2 : Arv Z h0 a2 k2 .char (1 : Int32) [(.int c0)] (.int (0 : Int32))) (g1 : n0 ≤ a1) (ne12 : a1 ≠ a2) (O0 : Old Z n0 h0) (St : own_St Z w0) (hc0 : (255 : Int32) < c0) (hr0 : 0 ≤ c0.toInt ∧ c0.toInt < 65536) :
    MetFree l (⟨"java/lang/String", "<init>", "([C)V"⟩ : MethodName) (head1 (Jvm.Cond.code (⟨"java/lang/String", "<init>", "([C)V"⟩ : MethodName) jdk_42_method_3_code 2 none :: ws) ({ frames := 5, cells := 2, slots := 3, locals := 74 } : Room)) (fun a U => a = #[(.ref a1), (.ref a2)] ∧ Z.Warmed39 U.vm ∧ U.heap = h0) (fun _ _ _ _ _ => True) (fun _ U o U' => ∃ v L, o = .returned v ∧ Q2_u Z a1 h0 n0 v U'.heap L ∧ FrameEnd U o U' L ({ frames := 5, cells := 2, slots := 3, locals := 74 } : Room).cells ({ frames := 5, cells := 2, slots := 3, locals := 74 } : Room).slots) := by
  refine MetFree.of_bodySF (plainFor_of_name pn_2_u) hisR ?_
  intro p e s m args below meth c s₁ Bd hml0 hP hK
  obtain ⟨rfl, hZ, hh⟩ := hP
  have hx := Bd.exec
  have hby := Bd.bytes
  have hml : c.maxLocals = 2 := hml0
  have hown : s.vm.findClass "java/lang/String" = some m.cls := findClass_of_methodNamed Bd.named
  have hnm := (name_of_methodNamed Bd.named Bd.method).1
  have X0 : Stand p l e ({ frames := 5, cells := 2, slots := 3, locals := 74 } : Room) s m #[(.ref a1), (.ref a2)] below meth c s₁ [] 0 0 := Stand.of_body Bd
  have e0 : s₁.heap = h0 := by rw [← hh, Bd.state]; rfl
  have N0 := Fr.nil n0
  refine Goes.via (next := s₁.setTop (mkF m 0 #[.val (.ref a1), .val (.ref a2)] [])) (fun t k => castTop (ef_2_u m a1 a2) k) ?_
  refine Goes.via (fun t k => XS.aloadN X0.here hx rfl (hb hby d2_u_0) rfl rfl k) ?_
  show Goes p e below (s₁.setTop (mkF m 1 #[.val (.ref a1), .val (.ref a2)] [(.ref a1)])) _
  refine Goes.via (fun t k => XS.aloadN X0.here hx rfl (hb hby d2_u_1) rfl rfl k) ?_
  show Goes p e below (s₁.setTop (mkF m 2 #[.val (.ref a1), .val (.ref a2)] [(.ref a2), (.ref a1)])) _
  refine Goes.via (fun t k => XS.iconst X0.here hx rfl (hb hby d2_u_2) k) ?_
  show Goes p e below (s₁.setTop (mkF m 3 #[.val (.ref a1), .val (.ref a2)] [(.int (0 : Int32)), (.ref a2), (.ref a1)])) _
  refine Goes.via (fun t k => XS.aloadN X0.here hx rfl (hb hby d2_u_3) rfl rfl k) ?_
  show Goes p e below (s₁.setTop (mkF m 4 #[.val (.ref a1), .val (.ref a2)] [(.ref a2), (.int (0 : Int32)), (.ref a2), (.ref a1)])) _
  obtain ⟨cl1, Ar1, -, Sa1, Na1, -, -⟩ := id V2
  refine Goes.via (next := s₁.setTop (mkF m 5 #[.val (.ref a1), .val (.ref a2)] [(.int (1 : Int32)), (.int (0 : Int32)), (.ref a2), (.ref a1)])) (fun t k => X0.arraylength hx (by rw [e0]; exact Ar1.1) (State.isArrayOf_alike hZ.alike Ar1.2.1) (g := (mkF m 4 #[.val (.ref a1), .val (.ref a2)] [(.ref a2), (.int (0 : Int32)), (.ref a2), (.ref a1)])) rfl rfl (hb hby d2_u_4) _ (by rw [len_of Sa1 Na1]; exact k)) ?_
  show Goes p e below (s₁.setTop (mkF m 5 #[.val (.ref a1), .val (.ref a2)] [(.int (1 : Int32)), (.int (0 : Int32)), (.ref a2), (.ref a1)])) _
  refine Goes.via (fun t k => XS.aconstNull X0.here hx rfl (hb hby d2_u_5) k) ?_
  show Goes p e below (s₁.setTop (mkF m 6 #[.val (.ref a1), .val (.ref a2)] [.null, (.int (1 : Int32)), (.int (0 : Int32)), (.ref a2), (.ref a1)])) _
  obtain ⟨_, _, ⟨T2, L2, k2, n2⟩, -, X2, ⟨Lc2, hQ2, l2, y2, z2⟩, st2⟩ := X0.specialBack hx (y := (⟨"java/lang/String", "<init>", "([CIILjava/lang/Void;)V"⟩ : MethodName)) rfl hown (mvT hZ (hw _ (List.mem_of_getElem? (i := 12) rfl))) (mvT hZ (hw _ (List.mem_of_getElem? (i := 13) rfl))) (mvT hZ (hw _ (List.mem_of_getElem? (i := 15) rfl))) (by decide) (backOf (W := 0) (rm3_u l Z a0 hw [] a1 a2 k2 c0 w0 h0 n0 Z0 E1 Fv Fc V2 g1 ne12 O0 St hc0 hr0) hZ (hw _ (List.mem_of_getElem? (i := 15) rfl)) (hw _ (List.mem_of_getElem? (i := 8) rfl)) (by decide) (by decide)) (g := (mkF m 6 #[.val (.ref a1), .val (.ref a2)] [.null, (.int (1 : Int32)), (.int (0 : Int32)), (.ref a2), (.ref a1)])) rfl (by rw [hml]; rfl) (Steps.refl _) (a := a1) (argsL := [(.ref a2), (.int (0 : Int32)), (.int (1 : Int32)), .null]) (rest := []) (lenOf pd_2_u_0 rfl) rfl (by show 2 * 0 + _ ≤ _; exact Nat.le_of_eq rfl) (hb hby d2_u_6) (fun _ _ => ⟨rfl, e0, (by decide : 0 + 2 ≤ _), (by decide : 0 + 3 ≤ _)⟩)
  dsimp only [Pt.U, Pt.locs, Pt.cells, Pt.slots] at X2 l2 y2 z2 st2 hQ2
  subst l2 y2 z2
  obtain ⟨rfl, N2q, Kc2⟩ := hQ2
  have F2_17 := E1.keep Kc2
  have F2_18 := V2.keep Kc2 (fun q => (Ne.symm ne12) (List.mem_singleton.mp q))
  have K2 : Keep h0 T2.heap [a1] := (Keep.refl h0 [a1]).trans Kc2 (fun x hx => by cases List.mem_singleton.mp hx; exact Or.inl (List.mem_of_getElem? (i := 0) rfl))
  have Z2 : n0 ≤ T2.heap.size := Nat.le_trans Z0 Kc2.1
  have O2 := O0.keep Kc2 (fun x hx => by cases List.mem_singleton.mp hx; exact g1)
  have N2 := Fr.app N0 N2q
  refine Goes.via (fun t k => st2.trans k) ?_
  show Goes p e below (T2.setTop (mkF m 9 #[.val (.ref a1), .val (.ref a2)] [])) _
  obtain ⟨fs, hr, hrun, hended, hW, hsame⟩ := X2.leave (v := none) (fun _ => rfl)
  refine ⟨_, _, ?_, hrun, hended, _, _, rfl, ?_, ⟨_, rfl⟩, hW, hsame.mono (by decide) (by decide)⟩
  · exact X2.returnOut hx Bd.returns (hb hby d2_u_9) hr
  · show Q2_u Z a1 h0 n0 _ T2.heap _
    exact ⟨rfl, N2, K2⟩
theorem d1_0_0 : decode method_3_code 0 = .ok (.iload_n 0, 1) := by decide +kernel
theorem d1_0_1 : decode method_3_code 1 = .ok (.ifCond .ne 5, 3) := by decide +kernel
theorem d1_0_4 : decode method_3_code 4 = .ok (.aconst_null, 1) := by decide +kernel
theorem d1_0_5 : decode method_3_code 5 = .ok (.areturn, 1) := by decide +kernel
theorem pn_1_0 : plainName "cascabel/model/selector/TypeSelectorIsUniversalPinLaw" = true := by first | (simp [plainName, overriddenIn]; done) | decide +kernel
theorem ef_1_0 (m : MethodId) (x1 : Int32) (x2 : Int32) (x3 : Int32) : entryFrame m #[(.int (0 : Int32)), (.int x1), (.int x2), (.int x3)] 5 = mkF m 0 #[.val (.int (0 : Int32)), .val (.int x1), .val (.int x2), .val (.int x3), .unset] [] := by first | (simp [entryFrame, mkF, argsToLocals, Value.category]; done) | rfl
def Q1_0 (Z : State) (h0 : Heap) (n0 : Nat) (v : Option Value) (h : Heap) (L : List Loc) : Prop := v = some .null ∧ Fr n0 L ∧ h = h0
set_option maxRecDepth 65536 in
set_option maxHeartbeats 40000000 in
theorem rm1_0 (l : Launch) (Z : State) (a0 : Array Value) (hw : ∀ d ∈ tables_1, d.before a0 Z = true) (ws : List Jvm.Cond) (p2 : Int32) (p3 : Int32) (p4 : Int32) (h0 : Heap) (n0 : Nat) (Z0 : n0 ≤ h0.size) :
    MetFree l (⟨"cascabel/model/selector/TypeSelectorIsUniversalPinLaw", "pick", "(IIIZ)Ljava/lang/String;"⟩ : MethodName) (head1 (Jvm.Cond.code (⟨"cascabel/model/selector/TypeSelectorIsUniversalPinLaw", "pick", "(IIIZ)Ljava/lang/String;"⟩ : MethodName) method_3_code 5 (some (.object "java/lang/String")) :: ws) ({ frames := 0, cells := 0, slots := 0, locals := 0 } : Room)) (fun a U => a = #[(.int (0 : Int32)), (.int p2), (.int p3), (.int p4)] ∧ Z.Warmed39 U.vm ∧ U.heap = h0) (fun _ _ _ _ _ => True) (fun _ U o U' => ∃ v L, o = .returned v ∧ Q1_0 Z  h0 n0 v U'.heap L ∧ FrameEnd U o U' L ({ frames := 0, cells := 0, slots := 0, locals := 0 } : Room).cells ({ frames := 0, cells := 0, slots := 0, locals := 0 } : Room).slots) := by
  refine MetFree.of_bodySF (plainFor_of_name pn_1_0) hisR ?_
  intro p e s m args below meth c s₁ Bd hml0 hP hK
  obtain ⟨rfl, hZ, hh⟩ := hP
  have hx := Bd.exec
  have hby := Bd.bytes
  have hml : c.maxLocals = 5 := hml0
  have hown : s.vm.findClass "cascabel/model/selector/TypeSelectorIsUniversalPinLaw" = some m.cls := findClass_of_methodNamed Bd.named
  have hnm := (name_of_methodNamed Bd.named Bd.method).1
  have X0 : Stand p l e ({ frames := 0, cells := 0, slots := 0, locals := 0 } : Room) s m #[(.int (0 : Int32)), (.int p2), (.int p3), (.int p4)] below meth c s₁ [] 0 0 := Stand.of_body Bd
  have e0 : s₁.heap = h0 := by rw [← hh, Bd.state]; rfl
  have N0 := Fr.nil n0
  refine Goes.via (next := s₁.setTop (mkF m 0 #[.val (.int (0 : Int32)), .val (.int p2), .val (.int p3), .val (.int p4), .unset] [])) (fun t k => castTop (ef_1_0 m p2 p3 p4) k) ?_
  refine Goes.via (fun t k => XS.iloadN X0.here hx rfl (hb hby d1_0_0) rfl k) ?_
  show Goes p e below (s₁.setTop (mkF m 1 #[.val (.int (0 : Int32)), .val (.int p2), .val (.int p3), .val (.int p4), .unset] [(.int (0 : Int32))])) _
  refine Goes.via (fun t k => XS.ifNo X0.here hx rfl (hb hby d1_0_1) rfl ((if0 _ _).trans (teq (show (0 : Int32) = (0 : Int32) from rfl)).2) k) ?_
  show Goes p e below (s₁.setTop (mkF m 4 #[.val (.int (0 : Int32)), .val (.int p2), .val (.int p3), .val (.int p4), .unset] [])) _
  refine Goes.via (fun t k => XS.aconstNull X0.here hx rfl (hb hby d1_0_4) k) ?_
  show Goes p e below (s₁.setTop (mkF m 5 #[.val (.int (0 : Int32)), .val (.int p2), .val (.int p3), .val (.int p4), .unset] [.null])) _
  obtain ⟨fs, hr, hrun, hended, hW, hsame⟩ := X0.leave (v := some .null) (fun h => by rw [Bd.returns] at h; cases h)
  refine ⟨_, _, ?_, hrun, hended, _, _, rfl, ?_, ⟨_, rfl⟩, hW, hsame.mono (by decide) (by decide)⟩
  · exact retOut X0 hx (t := (.object "java/lang/String")) Bd.returns rfl (Or.inr (Or.inr (Or.inr (Or.inr ⟨rfl, rfl, rfl⟩)))) (hb hby d1_0_5) hr
  · show Q1_0 Z  h0 n0 _ s₁.heap _
    rw [e0]
    exact ⟨rfl, N0, rfl⟩
theorem d1_1_0 : decode method_3_code 0 = .ok (.iload_n 0, 1) := by decide +kernel
theorem d1_1_1 : decode method_3_code 1 = .ok (.ifCond .ne 5, 3) := by decide +kernel
theorem d1_1_6 : decode method_3_code 6 = .ok (.iload_n 0, 1) := by decide +kernel
theorem d1_1_7 : decode method_3_code 7 = .ok (.iconst 1, 1) := by decide +kernel
theorem d1_1_8 : decode method_3_code 8 = .ok (.if_icmp .ne 6, 3) := by decide +kernel
theorem d1_1_11 : decode method_3_code 11 = .ok (.ldc 22, 2) := by decide +kernel
theorem d1_1_13 : decode method_3_code 13 = .ok (.areturn, 1) := by decide +kernel
theorem pn_1_1 : plainName "cascabel/model/selector/TypeSelectorIsUniversalPinLaw" = true := by first | (simp [plainName, overriddenIn]; done) | decide +kernel
theorem ef_1_1 (m : MethodId) (x1 : Int32) (x2 : Int32) (x3 : Int32) : entryFrame m #[(.int (1 : Int32)), (.int x1), (.int x2), (.int x3)] 5 = mkF m 0 #[.val (.int (1 : Int32)), .val (.int x1), .val (.int x2), .val (.int x3), .unset] [] := by first | (simp [entryFrame, mkF, argsToLocals, Value.category]; done) | rfl
def Q1_1 (Z : State) (h0 : Heap) (n0 : Nat) (v : Option Value) (h : Heap) (vm : Vm) (L : List Loc) : Prop := ∃ (r : Addr), v = some (.ref r) ∧ Fr n0 L ∧ Keep h0 h []
set_option maxRecDepth 65536 in
set_option maxHeartbeats 40000000 in
theorem rm1_1 (l : Launch) (Z : State) (a0 : Array Value) (hw : ∀ d ∈ tables_1, d.before a0 Z = true) (ws : List Jvm.Cond) (p2 : Int32) (p3 : Int32) (p4 : Int32) (w0 : Int32) (h0 : Heap) (n0 : Nat) (Z0 : n0 ≤ h0.size) (O0 : Old Z n0 h0) (St : own_St Z w0) :
    MetFree l (⟨"cascabel/model/selector/TypeSelectorIsUniversalPinLaw", "pick", "(IIIZ)Ljava/lang/String;"⟩ : MethodName) (head1 (Jvm.Cond.code (⟨"cascabel/model/selector/TypeSelectorIsUniversalPinLaw", "pick", "(IIIZ)Ljava/lang/String;"⟩ : MethodName) method_3_code 5 (some (.object "java/lang/String")) :: ws) ({ frames := 0, cells := 2, slots := 4, locals := 0 } : Room)) (fun a U => a = #[(.int (1 : Int32)), (.int p2), (.int p3), (.int p4)] ∧ Z.Warmed39 U.vm ∧ U.heap = h0 ∧ True) (fun _ _ _ _ _ => True) (fun _ U o U' => ∃ v L, o = .returned v ∧ Q1_1 Z  h0 n0 v U'.heap U'.vm L ∧ ReturnedEndW U o U' L ({ frames := 0, cells := 2, slots := 4, locals := 0 } : Room).cells ({ frames := 0, cells := 2, slots := 4, locals := 0 } : Room).slots) := by
  refine MetFree.of_bodySF (plainFor_of_name pn_1_1) hisR ?_
  intro p e s m args below meth c s₁ Bd hml0 hP hK
  obtain ⟨rfl, hZ, hh, hI⟩ := hP
  have hx := Bd.exec
  have hby := Bd.bytes
  have hml : c.maxLocals = 5 := hml0
  have hown : s.vm.findClass "cascabel/model/selector/TypeSelectorIsUniversalPinLaw" = some m.cls := findClass_of_methodNamed Bd.named
  have hnm := (name_of_methodNamed Bd.named Bd.method).1
  have X0 : Stand p l e ({ frames := 0, cells := 2, slots := 4, locals := 0 } : Room) (s.setVm s.vm) m #[(.int (1 : Int32)), (.int p2), (.int p3), (.int p4)] below meth c s₁ [] 0 0 := Stand.of_body Bd
  have e0 : s₁.heap = h0 := by rw [← hh, Bd.state]; rfl
  have N0 := Fr.nil n0
  have hS : s.Since s.vm 0 := (State.WarmedH.refl s).since 0
  have hk : 0 ≤ h0.size := Nat.zero_le _
  refine Goes.via (next := s₁.setTop (mkF m 0 #[.val (.int (1 : Int32)), .val (.int p2), .val (.int p3), .val (.int p4), .unset] [])) (fun t k => castTop (ef_1_1 m p2 p3 p4) k) ?_
  refine Goes.via (fun t k => XS.iloadN X0.here hx rfl (hb hby d1_1_0) rfl k) ?_
  show Goes p e below (s₁.setTop (mkF m 1 #[.val (.int (1 : Int32)), .val (.int p2), .val (.int p3), .val (.int p4), .unset] [(.int (1 : Int32))])) _
  refine Goes.via (fun t k => XS.ifYes X0.here hx rfl (pc0 := 1) (pc' := 6) rfl (hb hby d1_1_1) rfl ((if0 _ _).trans (feq (show ¬ ((1 : Int32) = (0 : Int32)) from (by decide))).2) (by decide) (by decide) k) ?_
  show Goes p e below (s₁.setTop (mkF m 6 #[.val (.int (1 : Int32)), .val (.int p2), .val (.int p3), .val (.int p4), .unset] [])) _
  refine Goes.via (fun t k => XS.iloadN X0.here hx rfl (hb hby d1_1_6) rfl k) ?_
  show Goes p e below (s₁.setTop (mkF m 7 #[.val (.int (1 : Int32)), .val (.int p2), .val (.int p3), .val (.int p4), .unset] [(.int (1 : Int32))])) _
  refine Goes.via (fun t k => XS.iconst X0.here hx rfl (hb hby d1_1_7) k) ?_
  show Goes p e below (s₁.setTop (mkF m 8 #[.val (.int (1 : Int32)), .val (.int p2), .val (.int p3), .val (.int p4), .unset] [(.int (1 : Int32)), (.int (1 : Int32))])) _
  refine Goes.via (fun t k => XS.icmpNo X0.here hx rfl (hb hby d1_1_8) rfl (teq (show (1 : Int32) = (1 : Int32) from rfl)).2 k) ?_
  show Goes p e below (s₁.setTop (mkF m 11 #[.val (.int (1 : Int32)), .val (.int p2), .val (.int p3), .val (.int p4), .unset] [])) _
  obtain ⟨la1, T1, h1, kk1, X1, e1, E1, S1, hk1, Zw1, ow1, st1⟩ := ldcS X0 hx hZ hown (hw _ (List.mem_of_getElem? (i := 61) rfl)) (own_wS hw) e0 hS hk (g := (mkF m 11 #[.val (.int (1 : Int32)), .val (.int p2), .val (.int p3), .val (.int p4), .unset] [])) rfl (hb hby d1_1_11) (n := 0) (by decide) (by decide) (by decide) (by decide)
  have K1 : Keep h0 h1 [] := (Keep.refl h0 []).ext E1
  have Z1 : n0 ≤ h1.size := Nat.le_trans Z0 E1.1
  have O1 := O0.ext E1
  have hZ := Zw1
  have hown := ow1
  have hS := S1
  have hk := hk1
  refine Goes.via st1 ?_
  show Goes p e below (T1.setTop (mkF m 13 #[.val (.int (1 : Int32)), .val (.int p2), .val (.int p3), .val (.int p4), .unset] [(.ref la1)])) _
  obtain ⟨fs, hr, hrun, hended, hRE⟩ := X1.leaveW hS (by rw [e1]; exact hk) (v := some (.ref la1)) (fun h => by rw [Bd.returns] at h; cases h)
  refine ⟨_, _, ?_, hrun, hended, _, _, rfl, ?_, hRE.1, hRE.2.1, hRE.2.2.1, hRE.2.2.2.mono (by decide) (by decide)⟩
  · exact retOut X1 hx (t := (.object "java/lang/String")) Bd.returns rfl (Or.inr (Or.inr (Or.inr (Or.inr ⟨rfl, rfl, rfl⟩)))) (hb hby d1_1_13) hr
  · show Q1_1 Z h0 n0 _ T1.heap _ _
    rw [e1]
    exact ⟨la1, rfl, N0, K1⟩
theorem d1_2_0 : decode method_3_code 0 = .ok (.iload_n 0, 1) := by decide +kernel
theorem d1_2_1 : decode method_3_code 1 = .ok (.ifCond .ne 5, 3) := by decide +kernel
theorem d1_2_6 : decode method_3_code 6 = .ok (.iload_n 0, 1) := by decide +kernel
theorem d1_2_7 : decode method_3_code 7 = .ok (.iconst 1, 1) := by decide +kernel
theorem d1_2_8 : decode method_3_code 8 = .ok (.if_icmp .ne 6, 3) := by decide +kernel
theorem d1_2_14 : decode method_3_code 14 = .ok (.iload_n 0, 1) := by decide +kernel
theorem d1_2_15 : decode method_3_code 15 = .ok (.iconst 2, 1) := by decide +kernel
theorem d1_2_16 : decode method_3_code 16 = .ok (.if_icmp .ne 6, 3) := by decide +kernel
theorem d1_2_19 : decode method_3_code 19 = .ok (.ldc 24, 2) := by decide +kernel
theorem d1_2_21 : decode method_3_code 21 = .ok (.areturn, 1) := by decide +kernel
theorem pn_1_2 : plainName "cascabel/model/selector/TypeSelectorIsUniversalPinLaw" = true := by first | (simp [plainName, overriddenIn]; done) | decide +kernel
theorem ef_1_2 (m : MethodId) (x1 : Int32) (x2 : Int32) (x3 : Int32) : entryFrame m #[(.int (2 : Int32)), (.int x1), (.int x2), (.int x3)] 5 = mkF m 0 #[.val (.int (2 : Int32)), .val (.int x1), .val (.int x2), .val (.int x3), .unset] [] := by first | (simp [entryFrame, mkF, argsToLocals, Value.category]; done) | rfl
def Q1_2 (Z : State) (h0 : Heap) (n0 : Nat) (v : Option Value) (h : Heap) (vm : Vm) (L : List Loc) : Prop := ∃ (r : Addr), v = some (.ref r) ∧ Fr n0 L ∧ Keep h0 h []
set_option maxRecDepth 65536 in
set_option maxHeartbeats 40000000 in
theorem rm1_2 (l : Launch) (Z : State) (a0 : Array Value) (hw : ∀ d ∈ tables_1, d.before a0 Z = true) (ws : List Jvm.Cond) (p2 : Int32) (p3 : Int32) (p4 : Int32) (w0 : Int32) (h0 : Heap) (n0 : Nat) (Z0 : n0 ≤ h0.size) (O0 : Old Z n0 h0) (St : own_St Z w0) :
    MetFree l (⟨"cascabel/model/selector/TypeSelectorIsUniversalPinLaw", "pick", "(IIIZ)Ljava/lang/String;"⟩ : MethodName) (head1 (Jvm.Cond.code (⟨"cascabel/model/selector/TypeSelectorIsUniversalPinLaw", "pick", "(IIIZ)Ljava/lang/String;"⟩ : MethodName) method_3_code 5 (some (.object "java/lang/String")) :: ws) ({ frames := 0, cells := 2, slots := 8, locals := 0 } : Room)) (fun a U => a = #[(.int (2 : Int32)), (.int p2), (.int p3), (.int p4)] ∧ Z.Warmed39 U.vm ∧ U.heap = h0 ∧ True) (fun _ _ _ _ _ => True) (fun _ U o U' => ∃ v L, o = .returned v ∧ Q1_2 Z  h0 n0 v U'.heap U'.vm L ∧ ReturnedEndW U o U' L ({ frames := 0, cells := 2, slots := 8, locals := 0 } : Room).cells ({ frames := 0, cells := 2, slots := 8, locals := 0 } : Room).slots) := by
  refine MetFree.of_bodySF (plainFor_of_name pn_1_2) hisR ?_
  intro p e s m args below meth c s₁ Bd hml0 hP hK
  obtain ⟨rfl, hZ, hh, hI⟩ := hP
  have hx := Bd.exec
  have hby := Bd.bytes
  have hml : c.maxLocals = 5 := hml0
  have hown : s.vm.findClass "cascabel/model/selector/TypeSelectorIsUniversalPinLaw" = some m.cls := findClass_of_methodNamed Bd.named
  have hnm := (name_of_methodNamed Bd.named Bd.method).1
  have X0 : Stand p l e ({ frames := 0, cells := 2, slots := 8, locals := 0 } : Room) (s.setVm s.vm) m #[(.int (2 : Int32)), (.int p2), (.int p3), (.int p4)] below meth c s₁ [] 0 0 := Stand.of_body Bd
  have e0 : s₁.heap = h0 := by rw [← hh, Bd.state]; rfl
  have N0 := Fr.nil n0
  have hS : s.Since s.vm 0 := (State.WarmedH.refl s).since 0
  have hk : 0 ≤ h0.size := Nat.zero_le _
  refine Goes.via (next := s₁.setTop (mkF m 0 #[.val (.int (2 : Int32)), .val (.int p2), .val (.int p3), .val (.int p4), .unset] [])) (fun t k => castTop (ef_1_2 m p2 p3 p4) k) ?_
  refine Goes.via (fun t k => XS.iloadN X0.here hx rfl (hb hby d1_2_0) rfl k) ?_
  show Goes p e below (s₁.setTop (mkF m 1 #[.val (.int (2 : Int32)), .val (.int p2), .val (.int p3), .val (.int p4), .unset] [(.int (2 : Int32))])) _
  refine Goes.via (fun t k => XS.ifYes X0.here hx rfl (pc0 := 1) (pc' := 6) rfl (hb hby d1_2_1) rfl ((if0 _ _).trans (feq (show ¬ ((2 : Int32) = (0 : Int32)) from (by decide))).2) (by decide) (by decide) k) ?_
  show Goes p e below (s₁.setTop (mkF m 6 #[.val (.int (2 : Int32)), .val (.int p2), .val (.int p3), .val (.int p4), .unset] [])) _
  refine Goes.via (fun t k => XS.iloadN X0.here hx rfl (hb hby d1_2_6) rfl k) ?_
  show Goes p e below (s₁.setTop (mkF m 7 #[.val (.int (2 : Int32)), .val (.int p2), .val (.int p3), .val (.int p4), .unset] [(.int (2 : Int32))])) _
  refine Goes.via (fun t k => XS.iconst X0.here hx rfl (hb hby d1_2_7) k) ?_
  show Goes p e below (s₁.setTop (mkF m 8 #[.val (.int (2 : Int32)), .val (.int p2), .val (.int p3), .val (.int p4), .unset] [(.int (1 : Int32)), (.int (2 : Int32))])) _
  refine Goes.via (fun t k => XS.icmpYes X0.here hx rfl (pc0 := 8) (pc' := 14) rfl (hb hby d1_2_8) rfl (feq (show ¬ ((2 : Int32) = (1 : Int32)) from (by decide))).2 (by decide) (by decide) k) ?_
  show Goes p e below (s₁.setTop (mkF m 14 #[.val (.int (2 : Int32)), .val (.int p2), .val (.int p3), .val (.int p4), .unset] [])) _
  refine Goes.via (fun t k => XS.iloadN X0.here hx rfl (hb hby d1_2_14) rfl k) ?_
  show Goes p e below (s₁.setTop (mkF m 15 #[.val (.int (2 : Int32)), .val (.int p2), .val (.int p3), .val (.int p4), .unset] [(.int (2 : Int32))])) _
  refine Goes.via (fun t k => XS.iconst X0.here hx rfl (hb hby d1_2_15) k) ?_
  show Goes p e below (s₁.setTop (mkF m 16 #[.val (.int (2 : Int32)), .val (.int p2), .val (.int p3), .val (.int p4), .unset] [(.int (2 : Int32)), (.int (2 : Int32))])) _
  refine Goes.via (fun t k => XS.icmpNo X0.here hx rfl (hb hby d1_2_16) rfl (teq (show (2 : Int32) = (2 : Int32) from rfl)).2 k) ?_
  show Goes p e below (s₁.setTop (mkF m 19 #[.val (.int (2 : Int32)), .val (.int p2), .val (.int p3), .val (.int p4), .unset] [])) _
  obtain ⟨la1, T1, h1, kk1, X1, e1, E1, S1, hk1, Zw1, ow1, st1⟩ := ldcS X0 hx hZ hown (hw _ (List.mem_of_getElem? (i := 35) rfl)) (own_wS hw) e0 hS hk (g := (mkF m 19 #[.val (.int (2 : Int32)), .val (.int p2), .val (.int p3), .val (.int p4), .unset] [])) rfl (hb hby d1_2_19) (n := 4) (by decide) (by decide) (by decide) (by decide)
  have K1 : Keep h0 h1 [] := (Keep.refl h0 []).ext E1
  have Z1 : n0 ≤ h1.size := Nat.le_trans Z0 E1.1
  have O1 := O0.ext E1
  have hZ := Zw1
  have hown := ow1
  have hS := S1
  have hk := hk1
  refine Goes.via st1 ?_
  show Goes p e below (T1.setTop (mkF m 21 #[.val (.int (2 : Int32)), .val (.int p2), .val (.int p3), .val (.int p4), .unset] [(.ref la1)])) _
  obtain ⟨fs, hr, hrun, hended, hRE⟩ := X1.leaveW hS (by rw [e1]; exact hk) (v := some (.ref la1)) (fun h => by rw [Bd.returns] at h; cases h)
  refine ⟨_, _, ?_, hrun, hended, _, _, rfl, ?_, hRE.1, hRE.2.1, hRE.2.2.1, hRE.2.2.2.mono (by decide) (by decide)⟩
  · exact retOut X1 hx (t := (.object "java/lang/String")) Bd.returns rfl (Or.inr (Or.inr (Or.inr (Or.inr ⟨rfl, rfl, rfl⟩)))) (hb hby d1_2_21) hr
  · show Q1_2 Z h0 n0 _ T1.heap _ _
    rw [e1]
    exact ⟨la1, rfl, N0, K1⟩
theorem d1_3_0 : decode method_3_code 0 = .ok (.iload_n 0, 1) := by decide +kernel
theorem d1_3_1 : decode method_3_code 1 = .ok (.ifCond .ne 5, 3) := by decide +kernel
theorem d1_3_6 : decode method_3_code 6 = .ok (.iload_n 0, 1) := by decide +kernel
theorem d1_3_7 : decode method_3_code 7 = .ok (.iconst 1, 1) := by decide +kernel
theorem d1_3_8 : decode method_3_code 8 = .ok (.if_icmp .ne 6, 3) := by decide +kernel
theorem d1_3_14 : decode method_3_code 14 = .ok (.iload_n 0, 1) := by decide +kernel
theorem d1_3_15 : decode method_3_code 15 = .ok (.iconst 2, 1) := by decide +kernel
theorem d1_3_16 : decode method_3_code 16 = .ok (.if_icmp .ne 6, 3) := by decide +kernel
theorem d1_3_22 : decode method_3_code 22 = .ok (.iload_n 3, 1) := by decide +kernel
theorem d1_3_23 : decode method_3_code 23 = .ok (.ifCond .eq 38, 3) := by decide +kernel
theorem d1_3_26 : decode method_3_code 26 = .ok (.iconst 2, 1) := by decide +kernel
theorem d1_3_27 : decode method_3_code 27 = .ok (.newarray .char, 2) := by decide +kernel
theorem d1_3_29 : decode method_3_code 29 = .ok (.astore 4, 2) := by decide +kernel
theorem d1_3_31 : decode method_3_code 31 = .ok (.aload 4, 2) := by decide +kernel
theorem d1_3_33 : decode method_3_code 33 = .ok (.iconst 0, 1) := by decide +kernel
theorem d1_3_34 : decode method_3_code 34 = .ok (.iload_n 1, 1) := by decide +kernel
theorem d1_3_35 : decode method_3_code 35 = .ok (.sipush 255, 3) := by decide +kernel
theorem d1_3_38 : decode method_3_code 38 = .ok (.iand, 1) := by decide +kernel
theorem d1_3_39 : decode method_3_code 39 = .ok (.i2c, 1) := by decide +kernel
theorem d1_3_40 : decode method_3_code 40 = .ok (.castore, 1) := by decide +kernel
theorem d1_3_41 : decode method_3_code 41 = .ok (.aload 4, 2) := by decide +kernel
theorem d1_3_43 : decode method_3_code 43 = .ok (.iconst 1, 1) := by decide +kernel
theorem d1_3_44 : decode method_3_code 44 = .ok (.iload_n 2, 1) := by decide +kernel
theorem d1_3_45 : decode method_3_code 45 = .ok (.sipush 255, 3) := by decide +kernel
theorem d1_3_48 : decode method_3_code 48 = .ok (.iand, 1) := by decide +kernel
theorem d1_3_49 : decode method_3_code 49 = .ok (.i2c, 1) := by decide +kernel
theorem d1_3_50 : decode method_3_code 50 = .ok (.castore, 1) := by decide +kernel
theorem d1_3_51 : decode method_3_code 51 = .ok (.new 26, 3) := by decide +kernel
theorem d1_3_54 : decode method_3_code 54 = .ok (.dup, 1) := by decide +kernel
theorem d1_3_55 : decode method_3_code 55 = .ok (.aload 4, 2) := by decide +kernel
theorem d1_3_57 : decode method_3_code 57 = .ok (.invokespecial 28, 3) := by decide +kernel
theorem d1_3_60 : decode method_3_code 60 = .ok (.areturn, 1) := by decide +kernel
theorem d1_3_61 : decode method_3_code 61 = .ok (.iconst 1, 1) := by decide +kernel
theorem d1_3_62 : decode method_3_code 62 = .ok (.newarray .char, 2) := by decide +kernel
theorem d1_3_64 : decode method_3_code 64 = .ok (.astore 4, 2) := by decide +kernel
theorem d1_3_66 : decode method_3_code 66 = .ok (.aload 4, 2) := by decide +kernel
theorem d1_3_68 : decode method_3_code 68 = .ok (.iconst 0, 1) := by decide +kernel
theorem d1_3_69 : decode method_3_code 69 = .ok (.iload_n 1, 1) := by decide +kernel
theorem d1_3_70 : decode method_3_code 70 = .ok (.ldc 31, 2) := by decide +kernel
theorem d1_3_72 : decode method_3_code 72 = .ok (.iand, 1) := by decide +kernel
theorem d1_3_73 : decode method_3_code 73 = .ok (.i2c, 1) := by decide +kernel
theorem d1_3_74 : decode method_3_code 74 = .ok (.castore, 1) := by decide +kernel
theorem d1_3_75 : decode method_3_code 75 = .ok (.new 26, 3) := by decide +kernel
theorem d1_3_78 : decode method_3_code 78 = .ok (.dup, 1) := by decide +kernel
theorem d1_3_79 : decode method_3_code 79 = .ok (.aload 4, 2) := by decide +kernel
theorem d1_3_81 : decode method_3_code 81 = .ok (.invokespecial 28, 3) := by decide +kernel
theorem d1_3_84 : decode method_3_code 84 = .ok (.areturn, 1) := by decide +kernel
theorem pn_1_3 : plainName "cascabel/model/selector/TypeSelectorIsUniversalPinLaw" = true := by first | (simp [plainName, overriddenIn]; done) | decide +kernel
theorem pd_1_3_0 : parseMethodDescriptor "([C)V" = some ⟨[(.array .char)], none⟩ := by decide +kernel
theorem ef_1_3 (m : MethodId) (x1 : Int32) (x2 : Int32) (x3 : Int32) : entryFrame m #[(.int (3 : Int32)), (.int x1), (.int x2), (.int x3)] 5 = mkF m 0 #[.val (.int (3 : Int32)), .val (.int x1), .val (.int x2), .val (.int x3), .unset] [] := by first | (simp [entryFrame, mkF, argsToLocals, Value.category]; done) | rfl
def Q1_3 (Z : State) (h0 : Heap) (n0 : Nat) (v : Option Value) (h : Heap) (L : List Loc) : Prop := ∃ (r : Addr), v = some (.ref r) ∧ Fr n0 L ∧ Keep h0 h []
set_option maxRecDepth 65536 in
set_option maxHeartbeats 40000000 in
theorem rm1_3 (l : Launch) (Z : State) (a0 : Array Value) (hw : ∀ d ∈ tables_1, d.before a0 Z = true) (ws : List Jvm.Cond) (p2 : Int32) (p3 : Int32) (p4 : Int32) (w0 : Int32) (h0 : Heap) (n0 : Nat) (Z0 : n0 ≤ h0.size) (O0 : Old Z n0 h0) (St : own_St Z w0) :
    MetFree l (⟨"cascabel/model/selector/TypeSelectorIsUniversalPinLaw", "pick", "(IIIZ)Ljava/lang/String;"⟩ : MethodName) (head1 (Jvm.Cond.code (⟨"cascabel/model/selector/TypeSelectorIsUniversalPinLaw", "pick", "(IIIZ)Ljava/lang/String;"⟩ : MethodName) method_3_code 5 (some (.object "java/lang/String")) :: ws) ({ frames := 6, cells := 4, slots := 8, locals := 88 } : Room)) (fun a U => a = #[(.int (3 : Int32)), (.int p2), (.int p3), (.int p4)] ∧ Z.Warmed39 U.vm ∧ U.heap = h0) (fun _ _ _ _ _ => True) (fun _ U o U' => ∃ v L, o = .returned v ∧ Q1_3 Z  h0 n0 v U'.heap L ∧ FrameEnd U o U' L ({ frames := 6, cells := 4, slots := 8, locals := 88 } : Room).cells ({ frames := 6, cells := 4, slots := 8, locals := 88 } : Room).slots) := by
  refine MetFree.of_bodySF (plainFor_of_name pn_1_3) hisR ?_
  intro p e s m args below meth c s₁ Bd hml0 hP hK
  obtain ⟨rfl, hZ, hh⟩ := hP
  have hx := Bd.exec
  have hby := Bd.bytes
  have hml : c.maxLocals = 5 := hml0
  have hown : s.vm.findClass "cascabel/model/selector/TypeSelectorIsUniversalPinLaw" = some m.cls := findClass_of_methodNamed Bd.named
  have hnm := (name_of_methodNamed Bd.named Bd.method).1
  have X0 : Stand p l e ({ frames := 6, cells := 4, slots := 8, locals := 88 } : Room) s m #[(.int (3 : Int32)), (.int p2), (.int p3), (.int p4)] below meth c s₁ [] 0 0 := Stand.of_body Bd
  have e0 : s₁.heap = h0 := by rw [← hh, Bd.state]; rfl
  have N0 := Fr.nil n0
  refine Goes.via (next := s₁.setTop (mkF m 0 #[.val (.int (3 : Int32)), .val (.int p2), .val (.int p3), .val (.int p4), .unset] [])) (fun t k => castTop (ef_1_3 m p2 p3 p4) k) ?_
  refine Goes.via (fun t k => XS.iloadN X0.here hx rfl (hb hby d1_3_0) rfl k) ?_
  show Goes p e below (s₁.setTop (mkF m 1 #[.val (.int (3 : Int32)), .val (.int p2), .val (.int p3), .val (.int p4), .unset] [(.int (3 : Int32))])) _
  refine Goes.via (fun t k => XS.ifYes X0.here hx rfl (pc0 := 1) (pc' := 6) rfl (hb hby d1_3_1) rfl ((if0 _ _).trans (feq (show ¬ ((3 : Int32) = (0 : Int32)) from (by decide))).2) (by decide) (by decide) k) ?_
  show Goes p e below (s₁.setTop (mkF m 6 #[.val (.int (3 : Int32)), .val (.int p2), .val (.int p3), .val (.int p4), .unset] [])) _
  refine Goes.via (fun t k => XS.iloadN X0.here hx rfl (hb hby d1_3_6) rfl k) ?_
  show Goes p e below (s₁.setTop (mkF m 7 #[.val (.int (3 : Int32)), .val (.int p2), .val (.int p3), .val (.int p4), .unset] [(.int (3 : Int32))])) _
  refine Goes.via (fun t k => XS.iconst X0.here hx rfl (hb hby d1_3_7) k) ?_
  show Goes p e below (s₁.setTop (mkF m 8 #[.val (.int (3 : Int32)), .val (.int p2), .val (.int p3), .val (.int p4), .unset] [(.int (1 : Int32)), (.int (3 : Int32))])) _
  refine Goes.via (fun t k => XS.icmpYes X0.here hx rfl (pc0 := 8) (pc' := 14) rfl (hb hby d1_3_8) rfl (feq (show ¬ ((3 : Int32) = (1 : Int32)) from (by decide))).2 (by decide) (by decide) k) ?_
  show Goes p e below (s₁.setTop (mkF m 14 #[.val (.int (3 : Int32)), .val (.int p2), .val (.int p3), .val (.int p4), .unset] [])) _
  refine Goes.via (fun t k => XS.iloadN X0.here hx rfl (hb hby d1_3_14) rfl k) ?_
  show Goes p e below (s₁.setTop (mkF m 15 #[.val (.int (3 : Int32)), .val (.int p2), .val (.int p3), .val (.int p4), .unset] [(.int (3 : Int32))])) _
  refine Goes.via (fun t k => XS.iconst X0.here hx rfl (hb hby d1_3_15) k) ?_
  show Goes p e below (s₁.setTop (mkF m 16 #[.val (.int (3 : Int32)), .val (.int p2), .val (.int p3), .val (.int p4), .unset] [(.int (2 : Int32)), (.int (3 : Int32))])) _
  refine Goes.via (fun t k => XS.icmpYes X0.here hx rfl (pc0 := 16) (pc' := 22) rfl (hb hby d1_3_16) rfl (feq (show ¬ ((3 : Int32) = (2 : Int32)) from (by decide))).2 (by decide) (by decide) k) ?_
  show Goes p e below (s₁.setTop (mkF m 22 #[.val (.int (3 : Int32)), .val (.int p2), .val (.int p3), .val (.int p4), .unset] [])) _
  refine Goes.via (fun t k => XS.iloadN X0.here hx rfl (hb hby d1_3_22) rfl k) ?_
  show Goes p e below (s₁.setTop (mkF m 23 #[.val (.int (3 : Int32)), .val (.int p2), .val (.int p3), .val (.int p4), .unset] [(.int p4)])) _
  by_cases hc23_1 : p4 = (0 : Int32)
  · refine Goes.via (fun t k => XS.ifYes X0.here hx rfl (pc0 := 23) (pc' := 61) rfl (hb hby d1_3_23) rfl ((if0 _ _).trans (teq hc23_1).1) (by decide) (by decide) k) ?_
    show Goes p e below (s₁.setTop (mkF m 61 #[.val (.int (3 : Int32)), .val (.int p2), .val (.int p3), .val (.int p4), .unset] [])) _
    refine Goes.via (fun t k => XS.iconst X0.here hx rfl (hb hby d1_3_61) k) ?_
    show Goes p e below (s₁.setTop (mkF m 62 #[.val (.int (3 : Int32)), .val (.int p2), .val (.int p3), .val (.int p4), .unset] [(.int (1 : Int32))])) _
    obtain ⟨T2, h2, ka2, X2, e2, E2, A2, st2⟩ := newP X0 hx hZ (hw _ (List.mem_of_getElem? (i := 4) rfl)) e0 (g := (mkF m 62 #[.val (.int (3 : Int32)), .val (.int p2), .val (.int p3), .val (.int p4), .unset] [(.int (1 : Int32))])) rfl (hb hby d1_3_62) rfl (by decide) (cap := 1) (by decide) (by decide) (by decide) (by decide)
    obtain ⟨b2, g2⟩ : ∃ z, z = h0.size := ⟨_, rfl⟩
    rw [← g2] at A2 st2
    have ge_b2 : n0 ≤ b2 := Nat.le_trans Z0 (Nat.le_of_eq g2.symm)
    have sz_b2 : h0.size ≤ b2 := Nat.le_trans (Keep.refl h0 []).1 (Nat.le_of_eq g2.symm)
    have K2 : Keep h0 h2 [] := (Keep.refl h0 []).ext E2
    have Z2 : n0 ≤ h2.size := Nat.le_trans Z0 E2.1
    have O2 := O0.ext E2
    have V2 : Arv Z h2 b2 ka2 .char (1 : Int32) [(.int (0 : Int32))] (.int (0 : Int32)) := (Arv.new A2 (by decide)).pad (pad_rep [] (.int (0 : Int32)) 1)
    refine Goes.via st2 ?_
    show Goes p e below (T2.setTop (mkF m 64 #[.val (.int (3 : Int32)), .val (.int p2), .val (.int p3), .val (.int p4), .unset] [(.ref b2)])) _
    refine Goes.via (fun t k => XS.astore X2.here hx rfl (hb hby d1_3_64) rfl rfl (l' := #[.val (.int (3 : Int32)), .val (.int p2), .val (.int p3), .val (.int p4), .val (.ref b2)]) rfl k) ?_
    show Goes p e below (T2.setTop (mkF m 66 #[.val (.int (3 : Int32)), .val (.int p2), .val (.int p3), .val (.int p4), .val (.ref b2)] [])) _
    refine Goes.via (fun t k => XS.aload X2.here hx rfl (hb hby d1_3_66) rfl rfl k) ?_
    show Goes p e below (T2.setTop (mkF m 68 #[.val (.int (3 : Int32)), .val (.int p2), .val (.int p3), .val (.int p4), .val (.ref b2)] [(.ref b2)])) _
    refine Goes.via (fun t k => XS.iconst X2.here hx rfl (hb hby d1_3_68) k) ?_
    show Goes p e below (T2.setTop (mkF m 69 #[.val (.int (3 : Int32)), .val (.int p2), .val (.int p3), .val (.int p4), .val (.ref b2)] [(.int (0 : Int32)), (.ref b2)])) _
    refine Goes.via (fun t k => XS.iloadN X2.here hx rfl (hb hby d1_3_69) rfl k) ?_
    show Goes p e below (T2.setTop (mkF m 70 #[.val (.int (3 : Int32)), .val (.int p2), .val (.int p3), .val (.int p4), .val (.ref b2)] [(.int p2), (.int (0 : Int32)), (.ref b2)])) _
    refine Goes.via (fun t k => X2.ldcInt hx hown (mvT hZ (hw _ (List.mem_of_getElem? (i := 5) rfl))) (g := (mkF m 70 #[.val (.int (3 : Int32)), .val (.int p2), .val (.int p3), .val (.int p4), .val (.ref b2)] [(.int p2), (.int (0 : Int32)), (.ref b2)])) rfl (hb hby d1_3_70) _ k) ?_
    show Goes p e below (T2.setTop (mkF m 72 #[.val (.int (3 : Int32)), .val (.int p2), .val (.int p3), .val (.int p4), .val (.ref b2)] [(.int (65535 : Int32)), (.int p2), (.int (0 : Int32)), (.ref b2)])) _
    refine Goes.via (fun t k => XS.iand X2.here hx rfl (hb hby d1_3_72) rfl k) ?_
    show Goes p e below (T2.setTop (mkF m 73 #[.val (.int (3 : Int32)), .val (.int p2), .val (.int p3), .val (.int p4), .val (.ref b2)] [(.int (p2 &&& (65535 : Int32))), (.int (0 : Int32)), (.ref b2)])) _
    refine Goes.via (fun t k => XS.i2c X2.here hx rfl (hb hby d1_3_73) rfl k) ?_
    show Goes p e below (T2.setTop (mkF m 74 #[.val (.int (3 : Int32)), .val (.int p2), .val (.int p3), .val (.int p4), .val (.ref b2)] [(.int ((p2 &&& (65535 : Int32)).toUInt32.toUInt16.toUInt32.toInt32)), (.int (0 : Int32)), (.ref b2)])) _
    obtain ⟨cl3, Ar3, qa3, Sa3, Na3, Ha3, Ga3⟩ := V2
    have hin3 : ¬ ((0 : Int32) < 0 ∨ cl3.slots.size ≤ ((0 : Int32)).toNatClampNeg) := inb_of Sa3 ⟨by decide, by decide⟩
    obtain ⟨T3, h3, X3, e3, W3, st3⟩ := stC X2 hx hZ e2 Ar3 (j := (0 : Int32)) hin3 (g := (mkF m 74 #[.val (.int (3 : Int32)), .val (.int p2), .val (.int p3), .val (.int p4), .val (.ref b2)] [(.int ((p2 &&& (65535 : Int32)).toUInt32.toUInt16.toUInt32.toInt32)), (.int (0 : Int32)), (.ref b2)])) rfl rfl (hb hby d1_3_74)
    have V3 : Arv Z h3 b2 ka2 .char (1 : Int32) [(.int (nar .char ((p2 &&& (65535 : Int32)).toUInt32.toUInt16.toUInt32.toInt32)))] (.int (0 : Int32)) := Arv.set Ar3 qa3 Sa3 Na3 Ha3 Ga3 (fits_nar_char _) W3 0 rfl (Nat.le_of_ble_eq_true rfl)
    have K3 : Keep h0 h3 [] := K2.wr W3 (Or.inr sz_b2)
    have Z3 : n0 ≤ h3.size := Nat.le_trans Z2 (Keep.of_wr W3).1
    have N3 := Fr.snoc X3 N0 ge_b2
    have O3 := O2.wr W3 ge_b2
    refine Goes.via st3 ?_
    show Goes p e below (T3.setTop (mkF m 75 #[.val (.int (3 : Int32)), .val (.int p2), .val (.int p3), .val (.int p4), .val (.ref b2)] [])) _
    obtain ⟨T4, h4, X4, e4, E4, A4, D4, -, st4⟩ := newO X3 hx hZ hown (hw _ (List.mem_of_getElem? (i := 6) rfl)) (hw _ (List.mem_of_getElem? (i := 7) rfl)) (hw _ (List.mem_of_getElem? (i := 8) rfl)) e3 (g := (mkF m 75 #[.val (.int (3 : Int32)), .val (.int p2), .val (.int p3), .val (.int p4), .val (.ref b2)] [])) rfl (hb hby d1_3_75) (by decide) (by decide)
    obtain ⟨b4, g4⟩ : ∃ z, z = h3.size := ⟨_, rfl⟩
    rw [← g4] at A4 D4 st4
    have lt_b2_b4 : b2 < b4 := Nat.lt_of_lt_of_le V3.lt (Nat.le_of_eq g4.symm)
    have ge_b4 : n0 ≤ b4 := Nat.le_trans Z3 (Nat.le_of_eq g4.symm)
    have sz_b4 : h0.size ≤ b4 := Nat.le_trans K3.1 (Nat.le_of_eq g4.symm)
    have F4_43 := V3.ext E4
    have K4 : Keep h0 h4 [] := K3.ext E4
    have Z4 : n0 ≤ h4.size := Nat.le_trans Z3 E4.1
    have O4 := O3.ext E4
    have F4_coder : Fld Z h4 b4 "java/lang/String" "coder" "B" (.int (0 : Int32)) := D4 (Or.inr (hw _ (List.mem_of_getElem? (i := 32) rfl))) (ty := .byte) (by decide)
    have F4_value : Fld Z h4 b4 "java/lang/String" "value" "[B" .null := D4 (Or.inr (hw _ (List.mem_of_getElem? (i := 34) rfl))) (ty := (.array .byte)) (by decide)
    refine Goes.via st4 ?_
    show Goes p e below (T4.setTop (mkF m 78 #[.val (.int (3 : Int32)), .val (.int p2), .val (.int p3), .val (.int p4), .val (.ref b2)] [(.ref b4)])) _
    refine Goes.via (fun t k => XS.dup X4.here hx rfl (hb hby d1_3_78) rfl rfl k) ?_
    show Goes p e below (T4.setTop (mkF m 79 #[.val (.int (3 : Int32)), .val (.int p2), .val (.int p3), .val (.int p4), .val (.ref b2)] [(.ref b4), (.ref b4)])) _
    refine Goes.via (fun t k => XS.aload X4.here hx rfl (hb hby d1_3_79) rfl rfl k) ?_
    show Goes p e below (T4.setTop (mkF m 81 #[.val (.int (3 : Int32)), .val (.int p2), .val (.int p3), .val (.int p4), .val (.ref b2)] [(.ref b2), (.ref b4), (.ref b4)])) _
    by_cases hbig : (255 : Int32) < (nar .char ((p2 &&& (65535 : Int32)).toUInt32.toUInt16.toUInt32.toInt32))
    · show Goes p e below (T4.setTop (mkF m 81 #[.val (.int (3 : Int32)), .val (.int p2), .val (.int p3), .val (.int p4), .val (.ref b2)] [(.ref b2), (.ref b4), (.ref b4)])) _
      obtain ⟨Lw5, X5w, N5w⟩ := ownPack X4 N3
      obtain ⟨_, _, ⟨T6, L6, k6, n6⟩, -, X6, ⟨Lc6, hQ6, l6, y6, z6⟩, st6⟩ := X5w.specialBack hx (y := (⟨"java/lang/String", "<init>", "([C)V"⟩ : MethodName)) rfl hown (mvT hZ (hw _ (List.mem_of_getElem? (i := 9) rfl))) (mvT hZ (hw _ (List.mem_of_getElem? (i := 10) rfl))) (mvT hZ (hw _ (List.mem_of_getElem? (i := 11) rfl))) (by decide) (backOf (W := 1) (rm2_u l Z a0 hw [] b4 b2 ka2 (nar .char ((p2 &&& (65535 : Int32)).toUInt32.toUInt16.toUInt32.toInt32)) w0 h4 n0 Z4 A4 F4_value F4_coder F4_43 ge_b4 (Nat.ne_of_gt lt_b2_b4) O4 St hbig (own_chr _)) hZ (hw _ (List.mem_of_getElem? (i := 11) rfl)) (hw _ (List.mem_of_getElem? (i := 8) rfl)) (by decide) (by decide)) (g := (mkF m 81 #[.val (.int (3 : Int32)), .val (.int p2), .val (.int p3), .val (.int p4), .val (.ref b2)] [(.ref b2), (.ref b4), (.ref b4)])) rfl (by rw [hml]; rfl) (Steps.refl _) (a := b4) (argsL := [(.ref b2)]) (rest := [(.ref b4)]) (lenOf pd_1_3_0 rfl) rfl (by show 2 * 0 + _ ≤ _; exact Nat.le_of_eq rfl) (hb hby d1_3_81) (fun _ _ => ⟨rfl, e4, (by decide : 2 + 2 ≤ _), (by decide : 5 + 3 ≤ _)⟩)
      dsimp only [Pt.U, Pt.locs, Pt.cells, Pt.slots] at X6 l6 y6 z6 st6 hQ6
      subst l6 y6 z6
      obtain ⟨rfl, N6q, Kc6⟩ := hQ6
      have F6_5 := F4_43.keep Kc6 (fun q => (Nat.ne_of_lt lt_b2_b4) (List.mem_singleton.mp q))
      have F6_6 := A4.keep Kc6
      have K6 : Keep h0 T6.heap [] := K4.trans Kc6 (fun x hx => by cases List.mem_singleton.mp hx; exact Or.inr sz_b4)
      have Z6 : n0 ≤ T6.heap.size := Nat.le_trans Z4 Kc6.1
      have O6 := O4.keep Kc6 (fun x hx => by cases List.mem_singleton.mp hx; exact ge_b4)
      have N6 := Fr.app N5w N6q
      refine Goes.via (fun t k => st6.trans k) ?_
      show Goes p e below (T6.setTop (mkF m 84 #[.val (.int (3 : Int32)), .val (.int p2), .val (.int p3), .val (.int p4), .val (.ref b2)] [(.ref b4)])) _
      obtain ⟨fs, hr, hrun, hended, hW, hsame⟩ := X6.leave (v := some (.ref b4)) (fun h => by rw [Bd.returns] at h; cases h)
      refine ⟨_, _, ?_, hrun, hended, _, _, rfl, ?_, ⟨_, rfl⟩, hW, hsame.mono (by decide) (by decide)⟩
      · exact retOut X6 hx (t := (.object "java/lang/String")) Bd.returns rfl (Or.inr (Or.inr (Or.inr (Or.inr ⟨rfl, rfl, rfl⟩)))) (hb hby d1_3_84) hr
      · show Q1_3 Z  h0 n0 _ T6.heap _
        exact ⟨b4, rfl, N6, K6⟩
    · show Goes p e below (T4.setTop (mkF m 81 #[.val (.int (3 : Int32)), .val (.int p2), .val (.int p3), .val (.int p4), .val (.ref b2)] [(.ref b2), (.ref b4), (.ref b4)])) _
      obtain ⟨Lw7, X7w, N7w⟩ := ownPack X4 N3
      obtain ⟨_, _, ⟨T8, L8, k8, n8⟩, -, X8, ⟨Lc8, hQ8, l8, y8, z8⟩, st8⟩ := X7w.specialBack hx (y := (⟨"java/lang/String", "<init>", "([C)V"⟩ : MethodName)) rfl hown (mvT hZ (hw _ (List.mem_of_getElem? (i := 9) rfl))) (mvT hZ (hw _ (List.mem_of_getElem? (i := 10) rfl))) (mvT hZ (hw _ (List.mem_of_getElem? (i := 11) rfl))) (by decide) (backOf (W := 1) (rm2_1 l Z a0 hw [] b4 b2 ka2 (nar .char ((p2 &&& (65535 : Int32)).toUInt32.toUInt16.toUInt32.toInt32)) w0 h4 n0 Z4 A4 F4_value F4_coder F4_43 ge_b4 (Nat.ne_of_gt lt_b2_b4) O4 St hbig) hZ (hw _ (List.mem_of_getElem? (i := 11) rfl)) (hw _ (List.mem_of_getElem? (i := 8) rfl)) (by decide) (by decide)) (g := (mkF m 81 #[.val (.int (3 : Int32)), .val (.int p2), .val (.int p3), .val (.int p4), .val (.ref b2)] [(.ref b2), (.ref b4), (.ref b4)])) rfl (by rw [hml]; rfl) (Steps.refl _) (a := b4) (argsL := [(.ref b2)]) (rest := [(.ref b4)]) (lenOf pd_1_3_0 rfl) rfl (by show 2 * 0 + _ ≤ _; exact Nat.le_of_eq rfl) (hb hby d1_3_81) (fun _ _ => ⟨rfl, e4, (by decide : 2 + 1 ≤ _), (by decide : 5 + 1 ≤ _)⟩)
      dsimp only [Pt.U, Pt.locs, Pt.cells, Pt.slots] at X8 l8 y8 z8 st8 hQ8
      subst l8 y8 z8
      obtain ⟨rfl, N8q, Kc8, Ec8, Cc8, t8, kt8, gt8, zt8, Vq8, Vc8⟩ := hQ8
      have lt_b2_t8 : b2 < t8 := Nat.lt_of_lt_of_le F4_43.lt zt8
      have lt_b4_t8 : b4 < t8 := Nat.lt_of_lt_of_le A4.lt zt8
      have sz_t8 : h0.size ≤ t8 := Nat.le_trans K4.1 zt8
      have F8_8 := F4_43.keep Kc8 (fun q => (Nat.ne_of_lt lt_b2_b4) (List.mem_singleton.mp q))
      have F8_9 := A4.keep Kc8
      have K8 : Keep h0 T8.heap [] := K4.trans Kc8 (fun x hx => by cases List.mem_singleton.mp hx; exact Or.inr sz_b4)
      have Z8 : n0 ≤ T8.heap.size := Nat.le_trans Z4 Kc8.1
      have O8 := O4.keep Kc8 (fun x hx => by cases List.mem_singleton.mp hx; exact ge_b4)
      have N8 := Fr.app N7w N8q
      refine Goes.via (fun t k => st8.trans k) ?_
      show Goes p e below (T8.setTop (mkF m 84 #[.val (.int (3 : Int32)), .val (.int p2), .val (.int p3), .val (.int p4), .val (.ref b2)] [(.ref b4)])) _
      obtain ⟨fs, hr, hrun, hended, hW, hsame⟩ := X8.leave (v := some (.ref b4)) (fun h => by rw [Bd.returns] at h; cases h)
      refine ⟨_, _, ?_, hrun, hended, _, _, rfl, ?_, ⟨_, rfl⟩, hW, hsame.mono (by decide) (by decide)⟩
      · exact retOut X8 hx (t := (.object "java/lang/String")) Bd.returns rfl (Or.inr (Or.inr (Or.inr (Or.inr ⟨rfl, rfl, rfl⟩)))) (hb hby d1_3_84) hr
      · show Q1_3 Z  h0 n0 _ T8.heap _
        exact ⟨b4, rfl, N8, K8⟩
  · refine Goes.via (fun t k => XS.ifNo X0.here hx rfl (hb hby d1_3_23) rfl ((if0 _ _).trans (feq hc23_1).1) k) ?_
    show Goes p e below (s₁.setTop (mkF m 26 #[.val (.int (3 : Int32)), .val (.int p2), .val (.int p3), .val (.int p4), .unset] [])) _
    refine Goes.via (fun t k => XS.iconst X0.here hx rfl (hb hby d1_3_26) k) ?_
    show Goes p e below (s₁.setTop (mkF m 27 #[.val (.int (3 : Int32)), .val (.int p2), .val (.int p3), .val (.int p4), .unset] [(.int (2 : Int32))])) _
    obtain ⟨T9, h9, ka9, X9, e9, E9, A9, st9⟩ := newP X0 hx hZ (hw _ (List.mem_of_getElem? (i := 4) rfl)) e0 (g := (mkF m 27 #[.val (.int (3 : Int32)), .val (.int p2), .val (.int p3), .val (.int p4), .unset] [(.int (2 : Int32))])) rfl (hb hby d1_3_27) rfl (by decide) (cap := 2) (by decide) (by decide) (by decide) (by decide)
    obtain ⟨b9, g9⟩ : ∃ z, z = h0.size := ⟨_, rfl⟩
    rw [← g9] at A9 st9
    have ge_b9 : n0 ≤ b9 := Nat.le_trans Z0 (Nat.le_of_eq g9.symm)
    have sz_b9 : h0.size ≤ b9 := Nat.le_trans (Keep.refl h0 []).1 (Nat.le_of_eq g9.symm)
    have K9 : Keep h0 h9 [] := (Keep.refl h0 []).ext E9
    have Z9 : n0 ≤ h9.size := Nat.le_trans Z0 E9.1
    have O9 := O0.ext E9
    have V9 : Arv Z h9 b9 ka9 .char (2 : Int32) [(.int (0 : Int32)), (.int (0 : Int32))] (.int (0 : Int32)) := (Arv.new A9 (by decide)).pad (pad_rep [] (.int (0 : Int32)) 2)
    refine Goes.via st9 ?_
    show Goes p e below (T9.setTop (mkF m 29 #[.val (.int (3 : Int32)), .val (.int p2), .val (.int p3), .val (.int p4), .unset] [(.ref b9)])) _
    refine Goes.via (fun t k => XS.astore X9.here hx rfl (hb hby d1_3_29) rfl rfl (l' := #[.val (.int (3 : Int32)), .val (.int p2), .val (.int p3), .val (.int p4), .val (.ref b9)]) rfl k) ?_
    show Goes p e below (T9.setTop (mkF m 31 #[.val (.int (3 : Int32)), .val (.int p2), .val (.int p3), .val (.int p4), .val (.ref b9)] [])) _
    refine Goes.via (fun t k => XS.aload X9.here hx rfl (hb hby d1_3_31) rfl rfl k) ?_
    show Goes p e below (T9.setTop (mkF m 33 #[.val (.int (3 : Int32)), .val (.int p2), .val (.int p3), .val (.int p4), .val (.ref b9)] [(.ref b9)])) _
    refine Goes.via (fun t k => XS.iconst X9.here hx rfl (hb hby d1_3_33) k) ?_
    show Goes p e below (T9.setTop (mkF m 34 #[.val (.int (3 : Int32)), .val (.int p2), .val (.int p3), .val (.int p4), .val (.ref b9)] [(.int (0 : Int32)), (.ref b9)])) _
    refine Goes.via (fun t k => XS.iloadN X9.here hx rfl (hb hby d1_3_34) rfl k) ?_
    show Goes p e below (T9.setTop (mkF m 35 #[.val (.int (3 : Int32)), .val (.int p2), .val (.int p3), .val (.int p4), .val (.ref b9)] [(.int p2), (.int (0 : Int32)), (.ref b9)])) _
    refine Goes.via (fun t k => XS.sipush X9.here hx rfl (hb hby d1_3_35) k) ?_
    show Goes p e below (T9.setTop (mkF m 38 #[.val (.int (3 : Int32)), .val (.int p2), .val (.int p3), .val (.int p4), .val (.ref b9)] [(.int (255 : Int32)), (.int p2), (.int (0 : Int32)), (.ref b9)])) _
    refine Goes.via (fun t k => XS.iand X9.here hx rfl (hb hby d1_3_38) rfl k) ?_
    show Goes p e below (T9.setTop (mkF m 39 #[.val (.int (3 : Int32)), .val (.int p2), .val (.int p3), .val (.int p4), .val (.ref b9)] [(.int (p2 &&& (255 : Int32))), (.int (0 : Int32)), (.ref b9)])) _
    refine Goes.via (fun t k => XS.i2c X9.here hx rfl (hb hby d1_3_39) rfl k) ?_
    show Goes p e below (T9.setTop (mkF m 40 #[.val (.int (3 : Int32)), .val (.int p2), .val (.int p3), .val (.int p4), .val (.ref b9)] [(.int ((p2 &&& (255 : Int32)).toUInt32.toUInt16.toUInt32.toInt32)), (.int (0 : Int32)), (.ref b9)])) _
    obtain ⟨cl10, Ar10, qa10, Sa10, Na10, Ha10, Ga10⟩ := V9
    have hin10 : ¬ ((0 : Int32) < 0 ∨ cl10.slots.size ≤ ((0 : Int32)).toNatClampNeg) := inb_of Sa10 ⟨by decide, by decide⟩
    obtain ⟨T10, h10, X10, e10, W10, st10⟩ := stC X9 hx hZ e9 Ar10 (j := (0 : Int32)) hin10 (g := (mkF m 40 #[.val (.int (3 : Int32)), .val (.int p2), .val (.int p3), .val (.int p4), .val (.ref b9)] [(.int ((p2 &&& (255 : Int32)).toUInt32.toUInt16.toUInt32.toInt32)), (.int (0 : Int32)), (.ref b9)])) rfl rfl (hb hby d1_3_40)
    have V10 : Arv Z h10 b9 ka9 .char (2 : Int32) [(.int (nar .char ((p2 &&& (255 : Int32)).toUInt32.toUInt16.toUInt32.toInt32))), (.int (0 : Int32))] (.int (0 : Int32)) := Arv.set Ar10 qa10 Sa10 Na10 Ha10 Ga10 (fits_nar_char _) W10 0 rfl (Nat.le_of_ble_eq_true rfl)
    have K10 : Keep h0 h10 [] := K9.wr W10 (Or.inr sz_b9)
    have Z10 : n0 ≤ h10.size := Nat.le_trans Z9 (Keep.of_wr W10).1
    have N10 := Fr.snoc X10 N0 ge_b9
    have O10 := O9.wr W10 ge_b9
    refine Goes.via st10 ?_
    show Goes p e below (T10.setTop (mkF m 41 #[.val (.int (3 : Int32)), .val (.int p2), .val (.int p3), .val (.int p4), .val (.ref b9)] [])) _
    refine Goes.via (fun t k => XS.aload X10.here hx rfl (hb hby d1_3_41) rfl rfl k) ?_
    show Goes p e below (T10.setTop (mkF m 43 #[.val (.int (3 : Int32)), .val (.int p2), .val (.int p3), .val (.int p4), .val (.ref b9)] [(.ref b9)])) _
    refine Goes.via (fun t k => XS.iconst X10.here hx rfl (hb hby d1_3_43) k) ?_
    show Goes p e below (T10.setTop (mkF m 44 #[.val (.int (3 : Int32)), .val (.int p2), .val (.int p3), .val (.int p4), .val (.ref b9)] [(.int (1 : Int32)), (.ref b9)])) _
    refine Goes.via (fun t k => XS.iloadN X10.here hx rfl (hb hby d1_3_44) rfl k) ?_
    show Goes p e below (T10.setTop (mkF m 45 #[.val (.int (3 : Int32)), .val (.int p2), .val (.int p3), .val (.int p4), .val (.ref b9)] [(.int p3), (.int (1 : Int32)), (.ref b9)])) _
    refine Goes.via (fun t k => XS.sipush X10.here hx rfl (hb hby d1_3_45) k) ?_
    show Goes p e below (T10.setTop (mkF m 48 #[.val (.int (3 : Int32)), .val (.int p2), .val (.int p3), .val (.int p4), .val (.ref b9)] [(.int (255 : Int32)), (.int p3), (.int (1 : Int32)), (.ref b9)])) _
    refine Goes.via (fun t k => XS.iand X10.here hx rfl (hb hby d1_3_48) rfl k) ?_
    show Goes p e below (T10.setTop (mkF m 49 #[.val (.int (3 : Int32)), .val (.int p2), .val (.int p3), .val (.int p4), .val (.ref b9)] [(.int (p3 &&& (255 : Int32))), (.int (1 : Int32)), (.ref b9)])) _
    refine Goes.via (fun t k => XS.i2c X10.here hx rfl (hb hby d1_3_49) rfl k) ?_
    show Goes p e below (T10.setTop (mkF m 50 #[.val (.int (3 : Int32)), .val (.int p2), .val (.int p3), .val (.int p4), .val (.ref b9)] [(.int ((p3 &&& (255 : Int32)).toUInt32.toUInt16.toUInt32.toInt32)), (.int (1 : Int32)), (.ref b9)])) _
    obtain ⟨cl11, Ar11, qa11, Sa11, Na11, Ha11, Ga11⟩ := V10
    have hin11 : ¬ ((1 : Int32) < 0 ∨ cl11.slots.size ≤ ((1 : Int32)).toNatClampNeg) := inb_of Sa11 ⟨by decide, by decide⟩
    obtain ⟨T11, h11, X11, e11, W11, st11⟩ := stC X10 hx hZ e10 Ar11 (j := (1 : Int32)) hin11 (g := (mkF m 50 #[.val (.int (3 : Int32)), .val (.int p2), .val (.int p3), .val (.int p4), .val (.ref b9)] [(.int ((p3 &&& (255 : Int32)).toUInt32.toUInt16.toUInt32.toInt32)), (.int (1 : Int32)), (.ref b9)])) rfl rfl (hb hby d1_3_50)
    have V11 : Arv Z h11 b9 ka9 .char (2 : Int32) [(.int (nar .char ((p2 &&& (255 : Int32)).toUInt32.toUInt16.toUInt32.toInt32))), (.int (nar .char ((p3 &&& (255 : Int32)).toUInt32.toUInt16.toUInt32.toInt32)))] (.int (0 : Int32)) := Arv.set Ar11 qa11 Sa11 Na11 Ha11 Ga11 (fits_nar_char _) W11 1 rfl (Nat.le_of_ble_eq_true rfl)
    have K11 : Keep h0 h11 [] := K10.wr W11 (Or.inr sz_b9)
    have Z11 : n0 ≤ h11.size := Nat.le_trans Z10 (Keep.of_wr W11).1
    have N11 := Fr.snoc X11 N10 ge_b9
    have O11 := O10.wr W11 ge_b9
    refine Goes.via st11 ?_
    show Goes p e below (T11.setTop (mkF m 51 #[.val (.int (3 : Int32)), .val (.int p2), .val (.int p3), .val (.int p4), .val (.ref b9)] [])) _
    obtain ⟨T12, h12, X12, e12, E12, A12, D12, -, st12⟩ := newO X11 hx hZ hown (hw _ (List.mem_of_getElem? (i := 6) rfl)) (hw _ (List.mem_of_getElem? (i := 7) rfl)) (hw _ (List.mem_of_getElem? (i := 8) rfl)) e11 (g := (mkF m 51 #[.val (.int (3 : Int32)), .val (.int p2), .val (.int p3), .val (.int p4), .val (.ref b9)] [])) rfl (hb hby d1_3_51) (by decide) (by decide)
    obtain ⟨b12, g12⟩ : ∃ z, z = h11.size := ⟨_, rfl⟩
    rw [← g12] at A12 D12 st12
    have lt_b9_b12 : b9 < b12 := Nat.lt_of_lt_of_le V11.lt (Nat.le_of_eq g12.symm)
    have ge_b12 : n0 ≤ b12 := Nat.le_trans Z11 (Nat.le_of_eq g12.symm)
    have sz_b12 : h0.size ≤ b12 := Nat.le_trans K11.1 (Nat.le_of_eq g12.symm)
    have F12_65 := V11.ext E12
    have K12 : Keep h0 h12 [] := K11.ext E12
    have Z12 : n0 ≤ h12.size := Nat.le_trans Z11 E12.1
    have O12 := O11.ext E12
    have F12_coder : Fld Z h12 b12 "java/lang/String" "coder" "B" (.int (0 : Int32)) := D12 (Or.inr (hw _ (List.mem_of_getElem? (i := 32) rfl))) (ty := .byte) (by decide)
    have F12_value : Fld Z h12 b12 "java/lang/String" "value" "[B" .null := D12 (Or.inr (hw _ (List.mem_of_getElem? (i := 34) rfl))) (ty := (.array .byte)) (by decide)
    refine Goes.via st12 ?_
    show Goes p e below (T12.setTop (mkF m 54 #[.val (.int (3 : Int32)), .val (.int p2), .val (.int p3), .val (.int p4), .val (.ref b9)] [(.ref b12)])) _
    refine Goes.via (fun t k => XS.dup X12.here hx rfl (hb hby d1_3_54) rfl rfl k) ?_
    show Goes p e below (T12.setTop (mkF m 55 #[.val (.int (3 : Int32)), .val (.int p2), .val (.int p3), .val (.int p4), .val (.ref b9)] [(.ref b12), (.ref b12)])) _
    refine Goes.via (fun t k => XS.aload X12.here hx rfl (hb hby d1_3_55) rfl rfl k) ?_
    show Goes p e below (T12.setTop (mkF m 57 #[.val (.int (3 : Int32)), .val (.int p2), .val (.int p3), .val (.int p4), .val (.ref b9)] [(.ref b9), (.ref b12), (.ref b12)])) _
    obtain ⟨Lw13, X13w, N13w⟩ := ownPack X12 N11
    obtain ⟨_, _, ⟨T14, L14, k14, n14⟩, -, X14, ⟨Lc14, hQ14, l14, y14, z14⟩, st14⟩ := X13w.specialBack hx (y := (⟨"java/lang/String", "<init>", "([C)V"⟩ : MethodName)) rfl hown (mvT hZ (hw _ (List.mem_of_getElem? (i := 9) rfl))) (mvT hZ (hw _ (List.mem_of_getElem? (i := 10) rfl))) (mvT hZ (hw _ (List.mem_of_getElem? (i := 11) rfl))) (by decide) (backOf (W := 1) (rm2_2 l Z a0 hw [] b12 b9 ka9 (nar .char ((p2 &&& (255 : Int32)).toUInt32.toUInt16.toUInt32.toInt32)) (nar .char ((p3 &&& (255 : Int32)).toUInt32.toUInt16.toUInt32.toInt32)) w0 h12 n0 Z12 A12 F12_value F12_coder F12_65 ge_b12 (Nat.ne_of_gt lt_b9_b12) O12 St (own_c255 _) (own_c255 _)) hZ (hw _ (List.mem_of_getElem? (i := 11) rfl)) (hw _ (List.mem_of_getElem? (i := 8) rfl)) (by decide) (by decide)) (g := (mkF m 57 #[.val (.int (3 : Int32)), .val (.int p2), .val (.int p3), .val (.int p4), .val (.ref b9)] [(.ref b9), (.ref b12), (.ref b12)])) rfl (by rw [hml]; rfl) (Steps.refl _) (a := b12) (argsL := [(.ref b9)]) (rest := [(.ref b12)]) (lenOf pd_1_3_0 rfl) rfl (by show 2 * 0 + _ ≤ _; exact Nat.le_of_eq rfl) (hb hby d1_3_57) (fun _ _ => ⟨rfl, e12, (by decide : 2 + 1 ≤ _), (by decide : 6 + 2 ≤ _)⟩)
    dsimp only [Pt.U, Pt.locs, Pt.cells, Pt.slots] at X14 l14 y14 z14 st14 hQ14
    subst l14 y14 z14
    obtain ⟨rfl, N14q, Kc14, Ec14, Cc14, t14, kt14, gt14, zt14, Vq14, Vc14⟩ := hQ14
    have lt_b9_t14 : b9 < t14 := Nat.lt_of_lt_of_le F12_65.lt zt14
    have lt_b12_t14 : b12 < t14 := Nat.lt_of_lt_of_le A12.lt zt14
    have sz_t14 : h0.size ≤ t14 := Nat.le_trans K12.1 zt14
    have F14_85 := F12_65.keep Kc14 (fun q => (Nat.ne_of_lt lt_b9_b12) (List.mem_singleton.mp q))
    have F14_86 := A12.keep Kc14
    have K14 : Keep h0 T14.heap [] := K12.trans Kc14 (fun x hx => by cases List.mem_singleton.mp hx; exact Or.inr sz_b12)
    have Z14 : n0 ≤ T14.heap.size := Nat.le_trans Z12 Kc14.1
    have O14 := O12.keep Kc14 (fun x hx => by cases List.mem_singleton.mp hx; exact ge_b12)
    have N14 := Fr.app N13w N14q
    refine Goes.via (fun t k => st14.trans k) ?_
    show Goes p e below (T14.setTop (mkF m 60 #[.val (.int (3 : Int32)), .val (.int p2), .val (.int p3), .val (.int p4), .val (.ref b9)] [(.ref b12)])) _
    obtain ⟨fs, hr, hrun, hended, hW, hsame⟩ := X14.leave (v := some (.ref b12)) (fun h => by rw [Bd.returns] at h; cases h)
    refine ⟨_, _, ?_, hrun, hended, _, _, rfl, ?_, ⟨_, rfl⟩, hW, hsame.mono (by decide) (by decide)⟩
    · exact retOut X14 hx (t := (.object "java/lang/String")) Bd.returns rfl (Or.inr (Or.inr (Or.inr (Or.inr ⟨rfl, rfl, rfl⟩)))) (hb hby d1_3_60) hr
    · show Q1_3 Z  h0 n0 _ T14.heap _
      exact ⟨b12, rfl, N14, K14⟩
theorem d9_0 : decode jdk_30_method_1_code 0 = .ok (.aload_n 0, 1) := by decide +kernel
theorem d9_1 : decode jdk_30_method_1_code 1 = .ok (.invokespecial 1, 3) := by decide +kernel
theorem d9_4 : decode jdk_30_method_1_code 4 = .ok (.return_, 1) := by decide +kernel
theorem pn_9 : plainName "java/lang/Record" = true := by first | (simp [plainName, overriddenIn]; done) | decide +kernel
theorem ef_9 (m : MethodId) (x0 : Addr) : entryFrame m #[(.ref x0)] 1 = mkF m 0 #[.val (.ref x0)] [] := by first | (simp [entryFrame, mkF, argsToLocals, Value.category]; done) | rfl
def Q9 (Z : State) (h0 : Heap) (n0 : Nat) (v : Option Value) (h : Heap) (L : List Loc) : Prop := v = none ∧ Fr n0 L ∧ h = h0
set_option maxRecDepth 65536 in
set_option maxHeartbeats 40000000 in
theorem rm9 (l : Launch) (Z : State) (a0 : Array Value) (hw : ∀ d ∈ tables_1, d.before a0 Z = true) (ws : List Jvm.Cond) (a1 : Addr) (h0 : Heap) (n0 : Nat) (Z0 : n0 ≤ h0.size) :
    MetFree l (⟨"java/lang/Record", "<init>", "()V"⟩ : MethodName) (head1 (Jvm.Cond.code (⟨"java/lang/Record", "<init>", "()V"⟩ : MethodName) jdk_30_method_1_code 1 none :: ws) ({ frames := 1, cells := 0, slots := 0, locals := 12 } : Room)) (fun a U => a = #[(.ref a1)] ∧ Z.Warmed39 U.vm ∧ U.heap = h0) (fun _ _ _ _ _ => True) (fun _ U o U' => ∃ v L, o = .returned v ∧ Q9 Z  h0 n0 v U'.heap L ∧ FrameEnd U o U' L ({ frames := 1, cells := 0, slots := 0, locals := 12 } : Room).cells ({ frames := 1, cells := 0, slots := 0, locals := 12 } : Room).slots) := by
  refine MetFree.of_bodySF (plainFor_of_name pn_9) hisR ?_
  intro p e s m args below meth c s₁ Bd hml0 hP hK
  obtain ⟨rfl, hZ, hh⟩ := hP
  have hx := Bd.exec
  have hby := Bd.bytes
  have hml : c.maxLocals = 1 := hml0
  have hown : s.vm.findClass "java/lang/Record" = some m.cls := findClass_of_methodNamed Bd.named
  have hnm := (name_of_methodNamed Bd.named Bd.method).1
  have X0 : Stand p l e ({ frames := 1, cells := 0, slots := 0, locals := 12 } : Room) s m #[(.ref a1)] below meth c s₁ [] 0 0 := Stand.of_body Bd
  have e0 : s₁.heap = h0 := by rw [← hh, Bd.state]; rfl
  have N0 := Fr.nil n0
  refine Goes.via (next := s₁.setTop (mkF m 0 #[.val (.ref a1)] [])) (fun t k => castTop (ef_9 m a1) k) ?_
  refine Goes.via (fun t k => XS.aloadN X0.here hx rfl (hb hby d9_0) rfl rfl k) ?_
  show Goes p e below (s₁.setTop (mkF m 1 #[.val (.ref a1)] [(.ref a1)])) _
  obtain ⟨T1, X1, e1, st1⟩ := initO X0 hx hZ hown (hw _ (List.mem_of_getElem? (i := 49) rfl)) (hw _ (List.mem_of_getElem? (i := 17) rfl)) (hw _ (List.mem_of_getElem? (i := 18) rfl)) e0 (g := (mkF m 1 #[.val (.ref a1)] [(.ref a1)])) rfl (by rw [hml]; rfl) rfl (hb hby d9_1) (by decide) (W := 0) (by show 2 * 0 + _ ≤ _; exact Nat.le_of_eq rfl) (by decide)
  refine Goes.via st1 ?_
  show Goes p e below (T1.setTop (mkF m 4 #[.val (.ref a1)] [])) _
  obtain ⟨fs, hr, hrun, hended, hW, hsame⟩ := X1.leave (v := none) (fun _ => rfl)
  refine ⟨_, _, ?_, hrun, hended, _, _, rfl, ?_, ⟨_, rfl⟩, hW, hsame.mono (by decide) (by decide)⟩
  · exact X1.returnOut hx Bd.returns (hb hby d9_4) hr
  · show Q9 Z  h0 n0 _ T1.heap _
    rw [e1]
    exact ⟨rfl, N0, rfl⟩
theorem d8_00_0 : decode prog_87_method_1_code 0 = .ok (.aload_n 0, 1) := by decide +kernel
theorem d8_00_1 : decode prog_87_method_1_code 1 = .ok (.invokespecial 1, 3) := by decide +kernel
theorem d8_00_4 : decode prog_87_method_1_code 4 = .ok (.aload_n 0, 1) := by decide +kernel
theorem d8_00_5 : decode prog_87_method_1_code 5 = .ok (.iload_n 1, 1) := by decide +kernel
theorem d8_00_6 : decode prog_87_method_1_code 6 = .ok (.putfield 7, 3) := by decide +kernel
theorem d8_00_9 : decode prog_87_method_1_code 9 = .ok (.aload_n 0, 1) := by decide +kernel
theorem d8_00_10 : decode prog_87_method_1_code 10 = .ok (.aload_n 2, 1) := by decide +kernel
theorem d8_00_11 : decode prog_87_method_1_code 11 = .ok (.putfield 13, 3) := by decide +kernel
theorem d8_00_14 : decode prog_87_method_1_code 14 = .ok (.aload_n 0, 1) := by decide +kernel
theorem d8_00_15 : decode prog_87_method_1_code 15 = .ok (.aload_n 3, 1) := by decide +kernel
theorem d8_00_16 : decode prog_87_method_1_code 16 = .ok (.putfield 17, 3) := by decide +kernel
theorem d8_00_19 : decode prog_87_method_1_code 19 = .ok (.return_, 1) := by decide +kernel
theorem pn_8_00 : plainName "cascabel/model/selector/TypeSelector" = true := by first | (simp [plainName, overriddenIn]; done) | decide +kernel
theorem pd_8_00_0 : parseMethodDescriptor "()V" = some ⟨[], none⟩ := by decide +kernel
theorem ef_8_00 (m : MethodId) (x0 : Addr) (x1 : Int32) : entryFrame m #[(.ref x0), (.int x1), .null, .null] 4 = mkF m 0 #[.val (.ref x0), .val (.int x1), .val .null, .val .null] [] := by first | (simp [entryFrame, mkF, argsToLocals, Value.category]; done) | rfl
def Q8_00 (Z : State) (a1 : Addr) (h0 : Heap) (n0 : Nat) (v : Option Value) (h : Heap) (L : List Loc) : Prop := v = none ∧ Fr n0 L ∧ Keep h0 h [a1] ∧ Exa Z h a1 "cascabel/model/selector/TypeSelector" ∧ Fld Z h a1 "cascabel/model/selector/TypeSelector" "name" "Ljava/lang/String;" .null
set_option maxRecDepth 65536 in
set_option maxHeartbeats 40000000 in
theorem rm8_00 (l : Launch) (Z : State) (a0 : Array Value) (hw : ∀ d ∈ tables_1, d.before a0 Z = true) (ws : List Jvm.Cond) (a1 : Addr) (p2 : Int32) (h0 : Heap) (n0 : Nat) (Z0 : n0 ≤ h0.size) (E1 : Exa Z h0 a1 "cascabel/model/selector/TypeSelector") (F1 : Fld Z h0 a1 "cascabel/model/selector/TypeSelector" "offset" "I" (.int (0 : Int32))) (F2 : Fld Z h0 a1 "cascabel/model/selector/TypeSelector" "namespace" "Ljava/lang/String;" .null) (F3 : Fld Z h0 a1 "cascabel/model/selector/TypeSelector" "name" "Ljava/lang/String;" .null) (g1 : n0 ≤ a1) :
    MetFree l (⟨"cascabel/model/selector/TypeSelector", "<init>", "(ILjava/lang/String;Ljava/lang/String;)V"⟩ : MethodName) (head1 (Jvm.Cond.code (⟨"cascabel/model/selector/TypeSelector", "<init>", "(ILjava/lang/String;Ljava/lang/String;)V"⟩ : MethodName) prog_87_method_1_code 4 none :: ws) ({ frames := 2, cells := 0, slots := 0, locals := 24 } : Room)) (fun a U => a = #[(.ref a1), (.int p2), .null, .null] ∧ Z.Warmed39 U.vm ∧ U.heap = h0) (fun _ _ _ _ _ => True) (fun _ U o U' => ∃ v L, o = .returned v ∧ Q8_00 Z a1 h0 n0 v U'.heap L ∧ FrameEnd U o U' L ({ frames := 2, cells := 0, slots := 0, locals := 24 } : Room).cells ({ frames := 2, cells := 0, slots := 0, locals := 24 } : Room).slots) := by
  refine MetFree.of_bodySF (plainFor_of_name pn_8_00) hisR ?_
  intro p e s m args below meth c s₁ Bd hml0 hP hK
  obtain ⟨rfl, hZ, hh⟩ := hP
  have hx := Bd.exec
  have hby := Bd.bytes
  have hml : c.maxLocals = 4 := hml0
  have hown : s.vm.findClass "cascabel/model/selector/TypeSelector" = some m.cls := findClass_of_methodNamed Bd.named
  have hnm := (name_of_methodNamed Bd.named Bd.method).1
  have X0 : Stand p l e ({ frames := 2, cells := 0, slots := 0, locals := 24 } : Room) s m #[(.ref a1), (.int p2), .null, .null] below meth c s₁ [] 0 0 := Stand.of_body Bd
  have e0 : s₁.heap = h0 := by rw [← hh, Bd.state]; rfl
  have N0 := Fr.nil n0
  refine Goes.via (next := s₁.setTop (mkF m 0 #[.val (.ref a1), .val (.int p2), .val .null, .val .null] [])) (fun t k => castTop (ef_8_00 m a1 p2) k) ?_
  refine Goes.via (fun t k => XS.aloadN X0.here hx rfl (hb hby d8_00_0) rfl rfl k) ?_
  show Goes p e below (s₁.setTop (mkF m 1 #[.val (.ref a1), .val (.int p2), .val .null, .val .null] [(.ref a1)])) _
  obtain ⟨_, _, ⟨T1, L1, k1, n1⟩, -, X1, ⟨Lc1, hQ1, l1, y1, z1⟩, st1⟩ := X0.specialBack hx (y := (⟨"java/lang/Record", "<init>", "()V"⟩ : MethodName)) rfl hown (mvT hZ (hw _ (List.mem_of_getElem? (i := 44) rfl))) (mvT hZ (hw _ (List.mem_of_getElem? (i := 45) rfl))) (mvT hZ (hw _ (List.mem_of_getElem? (i := 48) rfl))) (by decide) (backOf (W := 0) (rm9 l Z a0 hw [] a1  h0 n0 Z0 ) hZ (hw _ (List.mem_of_getElem? (i := 48) rfl)) (hw _ (List.mem_of_getElem? (i := 47) rfl)) (by decide) (by decide)) (g := (mkF m 1 #[.val (.ref a1), .val (.int p2), .val .null, .val .null] [(.ref a1)])) rfl (by rw [hml]; rfl) (Steps.refl _) (a := a1) (argsL := []) (rest := []) (lenOf pd_8_00_0 rfl) rfl (by show 2 * 0 + _ ≤ _; exact Nat.le_of_eq rfl) (hb hby d8_00_1) (fun _ _ => ⟨rfl, e0, (by decide : 0 + 0 ≤ _), (by decide : 0 + 0 ≤ _)⟩)
  dsimp only [Pt.U, Pt.locs, Pt.cells, Pt.slots] at X1 l1 y1 z1 st1 hQ1
  subst l1 y1 z1
  obtain ⟨rfl, N1q, er1⟩ := hQ1
  have e1 : T1.heap = h0 := er1
  have N1 := Fr.app N0 N1q
  refine Goes.via (fun t k => st1.trans k) ?_
  show Goes p e below (T1.setTop (mkF m 4 #[.val (.ref a1), .val (.int p2), .val .null, .val .null] [])) _
  refine Goes.via (fun t k => XS.aloadN X1.here hx rfl (hb hby d8_00_4) rfl rfl k) ?_
  show Goes p e below (T1.setTop (mkF m 5 #[.val (.ref a1), .val (.int p2), .val .null, .val .null] [(.ref a1)])) _
  refine Goes.via (fun t k => XS.iloadN X1.here hx rfl (hb hby d8_00_5) rfl k) ?_
  show Goes p e below (T1.setTop (mkF m 6 #[.val (.ref a1), .val (.int p2), .val .null, .val .null] [(.int p2), (.ref a1)])) _
  obtain ⟨T2, h2, X2, e2, W2, st2⟩ := putF X1 hx hZ hown (host := "") (Or.inl (hw _ (List.mem_of_getElem? (i := 50) rfl))) Via.refl e1 F1 E1 (Or.inr ⟨(hw _ (List.mem_of_getElem? (i := 51) rfl)), rfl, hnm⟩) (hw _ (List.mem_of_getElem? (i := 39) rfl)) (ty := .int) (by decide) rfl rfl (g := (mkF m 6 #[.val (.ref a1), .val (.int p2), .val .null, .val .null] [(.int p2), (.ref a1)])) rfl rfl (hb hby d8_00_6)
  have Fw2 := F1.same W2
  have F2_16 := E1.wr W2
  have F2_17 := F2.other W2 (Or.inr (slot_ne (Or.inr (hw _ (List.mem_of_getElem? (i := 53) rfl))) (Or.inr (hw _ (List.mem_of_getElem? (i := 51) rfl))) (by decide) (t := (.object "java/lang/String")) (t' := .int) (by decide) (by decide)))
  have F2_18 := F3.other W2 (Or.inr (slot_ne (Or.inr (hw _ (List.mem_of_getElem? (i := 55) rfl))) (Or.inr (hw _ (List.mem_of_getElem? (i := 51) rfl))) (by decide) (t := (.object "java/lang/String")) (t' := .int) (by decide) (by decide)))
  have K2 : Keep h0 h2 [a1] := (Keep.refl h0 [a1]).wr W2 (Or.inl (List.mem_of_getElem? (i := 0) rfl))
  have Z2 : n0 ≤ h2.size := Nat.le_trans Z0 (Keep.of_wr W2).1
  have N2 := Fr.snoc X2 N1 g1
  refine Goes.via st2 ?_
  show Goes p e below (T2.setTop (mkF m 9 #[.val (.ref a1), .val (.int p2), .val .null, .val .null] [])) _
  refine Goes.via (fun t k => XS.aloadN X2.here hx rfl (hb hby d8_00_9) rfl rfl k) ?_
  show Goes p e below (T2.setTop (mkF m 10 #[.val (.ref a1), .val (.int p2), .val .null, .val .null] [(.ref a1)])) _
  refine Goes.via (fun t k => XS.aloadN X2.here hx rfl (hb hby d8_00_10) rfl rfl k) ?_
  show Goes p e below (T2.setTop (mkF m 11 #[.val (.ref a1), .val (.int p2), .val .null, .val .null] [.null, (.ref a1)])) _
  obtain ⟨T3, h3, X3, e3, W3, st3⟩ := putF X2 hx hZ hown (host := "") (Or.inl (hw _ (List.mem_of_getElem? (i := 52) rfl))) Via.refl e2 F2_17 F2_16 (Or.inr ⟨(hw _ (List.mem_of_getElem? (i := 53) rfl)), rfl, hnm⟩) (hw _ (List.mem_of_getElem? (i := 39) rfl)) (ty := (.object "java/lang/String")) (by decide) rfl rfl (g := (mkF m 11 #[.val (.ref a1), .val (.int p2), .val .null, .val .null] [.null, (.ref a1)])) rfl rfl (hb hby d8_00_11)
  have Fw3 := F2_17.same W3
  have F3_30 := F2_16.wr W3
  have F3_31 := F2_18.other W3 (Or.inr (slot_ne (Or.inr (hw _ (List.mem_of_getElem? (i := 55) rfl))) (Or.inr (hw _ (List.mem_of_getElem? (i := 53) rfl))) (by decide) (t := (.object "java/lang/String")) (t' := (.object "java/lang/String")) (by decide) (by decide)))
  have F3_32 := Fw2.other W3 (Or.inr (slot_ne (Or.inr (hw _ (List.mem_of_getElem? (i := 51) rfl))) (Or.inr (hw _ (List.mem_of_getElem? (i := 53) rfl))) (by decide) (t := .int) (t' := (.object "java/lang/String")) (by decide) (by decide)))
  have K3 : Keep h0 h3 [a1] := K2.wr W3 (Or.inl (List.mem_of_getElem? (i := 0) rfl))
  have Z3 : n0 ≤ h3.size := Nat.le_trans Z2 (Keep.of_wr W3).1
  have N3 := Fr.snoc X3 N2 g1
  refine Goes.via st3 ?_
  show Goes p e below (T3.setTop (mkF m 14 #[.val (.ref a1), .val (.int p2), .val .null, .val .null] [])) _
  refine Goes.via (fun t k => XS.aloadN X3.here hx rfl (hb hby d8_00_14) rfl rfl k) ?_
  show Goes p e below (T3.setTop (mkF m 15 #[.val (.ref a1), .val (.int p2), .val .null, .val .null] [(.ref a1)])) _
  refine Goes.via (fun t k => XS.aloadN X3.here hx rfl (hb hby d8_00_15) rfl rfl k) ?_
  show Goes p e below (T3.setTop (mkF m 16 #[.val (.ref a1), .val (.int p2), .val .null, .val .null] [.null, (.ref a1)])) _
  obtain ⟨T4, h4, X4, e4, W4, st4⟩ := putF X3 hx hZ hown (host := "") (Or.inl (hw _ (List.mem_of_getElem? (i := 54) rfl))) Via.refl e3 F3_31 F3_30 (Or.inr ⟨(hw _ (List.mem_of_getElem? (i := 55) rfl)), rfl, hnm⟩) (hw _ (List.mem_of_getElem? (i := 39) rfl)) (ty := (.object "java/lang/String")) (by decide) rfl rfl (g := (mkF m 16 #[.val (.ref a1), .val (.int p2), .val .null, .val .null] [.null, (.ref a1)])) rfl rfl (hb hby d8_00_16)
  have Fw4 := F3_31.same W4
  have F4_44 := F3_30.wr W4
  have F4_45 := F3_32.other W4 (Or.inr (slot_ne (Or.inr (hw _ (List.mem_of_getElem? (i := 51) rfl))) (Or.inr (hw _ (List.mem_of_getElem? (i := 55) rfl))) (by decide) (t := .int) (t' := (.object "java/lang/String")) (by decide) (by decide)))
  have F4_46 := Fw3.other W4 (Or.inr (slot_ne (Or.inr (hw _ (List.mem_of_getElem? (i := 53) rfl))) (Or.inr (hw _ (List.mem_of_getElem? (i := 55) rfl))) (by decide) (t := (.object "java/lang/String")) (t' := (.object "java/lang/String")) (by decide) (by decide)))
  have K4 : Keep h0 h4 [a1] := K3.wr W4 (Or.inl (List.mem_of_getElem? (i := 0) rfl))
  have Z4 : n0 ≤ h4.size := Nat.le_trans Z3 (Keep.of_wr W4).1
  have N4 := Fr.snoc X4 N3 g1
  refine Goes.via st4 ?_
  show Goes p e below (T4.setTop (mkF m 19 #[.val (.ref a1), .val (.int p2), .val .null, .val .null] [])) _
  obtain ⟨fs, hr, hrun, hended, hW, hsame⟩ := X4.leave (v := none) (fun _ => rfl)
  refine ⟨_, _, ?_, hrun, hended, _, _, rfl, ?_, ⟨_, rfl⟩, hW, hsame.mono (by decide) (by decide)⟩
  · exact X4.returnOut hx Bd.returns (hb hby d8_00_19) hr
  · show Q8_00 Z a1 h0 n0 _ T4.heap _
    rw [e4]
    exact ⟨rfl, N4, K4, F4_44, Fw4⟩
theorem d8_01_0 : decode prog_87_method_1_code 0 = .ok (.aload_n 0, 1) := by decide +kernel
theorem d8_01_1 : decode prog_87_method_1_code 1 = .ok (.invokespecial 1, 3) := by decide +kernel
theorem d8_01_4 : decode prog_87_method_1_code 4 = .ok (.aload_n 0, 1) := by decide +kernel
theorem d8_01_5 : decode prog_87_method_1_code 5 = .ok (.iload_n 1, 1) := by decide +kernel
theorem d8_01_6 : decode prog_87_method_1_code 6 = .ok (.putfield 7, 3) := by decide +kernel
theorem d8_01_9 : decode prog_87_method_1_code 9 = .ok (.aload_n 0, 1) := by decide +kernel
theorem d8_01_10 : decode prog_87_method_1_code 10 = .ok (.aload_n 2, 1) := by decide +kernel
theorem d8_01_11 : decode prog_87_method_1_code 11 = .ok (.putfield 13, 3) := by decide +kernel
theorem d8_01_14 : decode prog_87_method_1_code 14 = .ok (.aload_n 0, 1) := by decide +kernel
theorem d8_01_15 : decode prog_87_method_1_code 15 = .ok (.aload_n 3, 1) := by decide +kernel
theorem d8_01_16 : decode prog_87_method_1_code 16 = .ok (.putfield 17, 3) := by decide +kernel
theorem d8_01_19 : decode prog_87_method_1_code 19 = .ok (.return_, 1) := by decide +kernel
theorem pn_8_01 : plainName "cascabel/model/selector/TypeSelector" = true := by first | (simp [plainName, overriddenIn]; done) | decide +kernel
theorem pd_8_01_0 : parseMethodDescriptor "()V" = some ⟨[], none⟩ := by decide +kernel
theorem ef_8_01 (m : MethodId) (x0 : Addr) (x1 : Int32) (x3 : Addr) : entryFrame m #[(.ref x0), (.int x1), .null, (.ref x3)] 4 = mkF m 0 #[.val (.ref x0), .val (.int x1), .val .null, .val (.ref x3)] [] := by first | (simp [entryFrame, mkF, argsToLocals, Value.category]; done) | rfl
def Q8_01 (Z : State) (a1 : Addr) (a4 : Addr) (h0 : Heap) (n0 : Nat) (v : Option Value) (h : Heap) (L : List Loc) : Prop := v = none ∧ Fr n0 L ∧ Keep h0 h [a1] ∧ Exa Z h a1 "cascabel/model/selector/TypeSelector" ∧ Fld Z h a1 "cascabel/model/selector/TypeSelector" "name" "Ljava/lang/String;" (.ref a4)
set_option maxRecDepth 65536 in
set_option maxHeartbeats 40000000 in
theorem rm8_01 (l : Launch) (Z : State) (a0 : Array Value) (hw : ∀ d ∈ tables_1, d.before a0 Z = true) (ws : List Jvm.Cond) (a1 : Addr) (p2 : Int32) (a4 : Addr) (h0 : Heap) (n0 : Nat) (Z0 : n0 ≤ h0.size) (E1 : Exa Z h0 a1 "cascabel/model/selector/TypeSelector") (F1 : Fld Z h0 a1 "cascabel/model/selector/TypeSelector" "offset" "I" (.int (0 : Int32))) (F2 : Fld Z h0 a1 "cascabel/model/selector/TypeSelector" "namespace" "Ljava/lang/String;" .null) (F3 : Fld Z h0 a1 "cascabel/model/selector/TypeSelector" "name" "Ljava/lang/String;" .null) (g1 : n0 ≤ a1) :
    MetFree l (⟨"cascabel/model/selector/TypeSelector", "<init>", "(ILjava/lang/String;Ljava/lang/String;)V"⟩ : MethodName) (head1 (Jvm.Cond.code (⟨"cascabel/model/selector/TypeSelector", "<init>", "(ILjava/lang/String;Ljava/lang/String;)V"⟩ : MethodName) prog_87_method_1_code 4 none :: ws) ({ frames := 2, cells := 0, slots := 0, locals := 24 } : Room)) (fun a U => a = #[(.ref a1), (.int p2), .null, (.ref a4)] ∧ Z.Warmed39 U.vm ∧ U.heap = h0) (fun _ _ _ _ _ => True) (fun _ U o U' => ∃ v L, o = .returned v ∧ Q8_01 Z a1 a4 h0 n0 v U'.heap L ∧ FrameEnd U o U' L ({ frames := 2, cells := 0, slots := 0, locals := 24 } : Room).cells ({ frames := 2, cells := 0, slots := 0, locals := 24 } : Room).slots) := by
  refine MetFree.of_bodySF (plainFor_of_name pn_8_01) hisR ?_
  intro p e s m args below meth c s₁ Bd hml0 hP hK
  obtain ⟨rfl, hZ, hh⟩ := hP
  have hx := Bd.exec
  have hby := Bd.bytes
  have hml : c.maxLocals = 4 := hml0
  have hown : s.vm.findClass "cascabel/model/selector/TypeSelector" = some m.cls := findClass_of_methodNamed Bd.named
  have hnm := (name_of_methodNamed Bd.named Bd.method).1
  have X0 : Stand p l e ({ frames := 2, cells := 0, slots := 0, locals := 24 } : Room) s m #[(.ref a1), (.int p2), .null, (.ref a4)] below meth c s₁ [] 0 0 := Stand.of_body Bd
  have e0 : s₁.heap = h0 := by rw [← hh, Bd.state]; rfl
  have N0 := Fr.nil n0
  refine Goes.via (next := s₁.setTop (mkF m 0 #[.val (.ref a1), .val (.int p2), .val .null, .val (.ref a4)] [])) (fun t k => castTop (ef_8_01 m a1 p2 a4) k) ?_
  refine Goes.via (fun t k => XS.aloadN X0.here hx rfl (hb hby d8_01_0) rfl rfl k) ?_
  show Goes p e below (s₁.setTop (mkF m 1 #[.val (.ref a1), .val (.int p2), .val .null, .val (.ref a4)] [(.ref a1)])) _
  obtain ⟨_, _, ⟨T1, L1, k1, n1⟩, -, X1, ⟨Lc1, hQ1, l1, y1, z1⟩, st1⟩ := X0.specialBack hx (y := (⟨"java/lang/Record", "<init>", "()V"⟩ : MethodName)) rfl hown (mvT hZ (hw _ (List.mem_of_getElem? (i := 44) rfl))) (mvT hZ (hw _ (List.mem_of_getElem? (i := 45) rfl))) (mvT hZ (hw _ (List.mem_of_getElem? (i := 48) rfl))) (by decide) (backOf (W := 0) (rm9 l Z a0 hw [] a1  h0 n0 Z0 ) hZ (hw _ (List.mem_of_getElem? (i := 48) rfl)) (hw _ (List.mem_of_getElem? (i := 47) rfl)) (by decide) (by decide)) (g := (mkF m 1 #[.val (.ref a1), .val (.int p2), .val .null, .val (.ref a4)] [(.ref a1)])) rfl (by rw [hml]; rfl) (Steps.refl _) (a := a1) (argsL := []) (rest := []) (lenOf pd_8_01_0 rfl) rfl (by show 2 * 0 + _ ≤ _; exact Nat.le_of_eq rfl) (hb hby d8_01_1) (fun _ _ => ⟨rfl, e0, (by decide : 0 + 0 ≤ _), (by decide : 0 + 0 ≤ _)⟩)
  dsimp only [Pt.U, Pt.locs, Pt.cells, Pt.slots] at X1 l1 y1 z1 st1 hQ1
  subst l1 y1 z1
  obtain ⟨rfl, N1q, er1⟩ := hQ1
  have e1 : T1.heap = h0 := er1
  have N1 := Fr.app N0 N1q
  refine Goes.via (fun t k => st1.trans k) ?_
  show Goes p e below (T1.setTop (mkF m 4 #[.val (.ref a1), .val (.int p2), .val .null, .val (.ref a4)] [])) _
  refine Goes.via (fun t k => XS.aloadN X1.here hx rfl (hb hby d8_01_4) rfl rfl k) ?_
  show Goes p e below (T1.setTop (mkF m 5 #[.val (.ref a1), .val (.int p2), .val .null, .val (.ref a4)] [(.ref a1)])) _
  refine Goes.via (fun t k => XS.iloadN X1.here hx rfl (hb hby d8_01_5) rfl k) ?_
  show Goes p e below (T1.setTop (mkF m 6 #[.val (.ref a1), .val (.int p2), .val .null, .val (.ref a4)] [(.int p2), (.ref a1)])) _
  obtain ⟨T2, h2, X2, e2, W2, st2⟩ := putF X1 hx hZ hown (host := "") (Or.inl (hw _ (List.mem_of_getElem? (i := 50) rfl))) Via.refl e1 F1 E1 (Or.inr ⟨(hw _ (List.mem_of_getElem? (i := 51) rfl)), rfl, hnm⟩) (hw _ (List.mem_of_getElem? (i := 39) rfl)) (ty := .int) (by decide) rfl rfl (g := (mkF m 6 #[.val (.ref a1), .val (.int p2), .val .null, .val (.ref a4)] [(.int p2), (.ref a1)])) rfl rfl (hb hby d8_01_6)
  have Fw2 := F1.same W2
  have F2_16 := E1.wr W2
  have F2_17 := F2.other W2 (Or.inr (slot_ne (Or.inr (hw _ (List.mem_of_getElem? (i := 53) rfl))) (Or.inr (hw _ (List.mem_of_getElem? (i := 51) rfl))) (by decide) (t := (.object "java/lang/String")) (t' := .int) (by decide) (by decide)))
  have F2_18 := F3.other W2 (Or.inr (slot_ne (Or.inr (hw _ (List.mem_of_getElem? (i := 55) rfl))) (Or.inr (hw _ (List.mem_of_getElem? (i := 51) rfl))) (by decide) (t := (.object "java/lang/String")) (t' := .int) (by decide) (by decide)))
  have K2 : Keep h0 h2 [a1] := (Keep.refl h0 [a1]).wr W2 (Or.inl (List.mem_of_getElem? (i := 0) rfl))
  have Z2 : n0 ≤ h2.size := Nat.le_trans Z0 (Keep.of_wr W2).1
  have N2 := Fr.snoc X2 N1 g1
  refine Goes.via st2 ?_
  show Goes p e below (T2.setTop (mkF m 9 #[.val (.ref a1), .val (.int p2), .val .null, .val (.ref a4)] [])) _
  refine Goes.via (fun t k => XS.aloadN X2.here hx rfl (hb hby d8_01_9) rfl rfl k) ?_
  show Goes p e below (T2.setTop (mkF m 10 #[.val (.ref a1), .val (.int p2), .val .null, .val (.ref a4)] [(.ref a1)])) _
  refine Goes.via (fun t k => XS.aloadN X2.here hx rfl (hb hby d8_01_10) rfl rfl k) ?_
  show Goes p e below (T2.setTop (mkF m 11 #[.val (.ref a1), .val (.int p2), .val .null, .val (.ref a4)] [.null, (.ref a1)])) _
  obtain ⟨T3, h3, X3, e3, W3, st3⟩ := putF X2 hx hZ hown (host := "") (Or.inl (hw _ (List.mem_of_getElem? (i := 52) rfl))) Via.refl e2 F2_17 F2_16 (Or.inr ⟨(hw _ (List.mem_of_getElem? (i := 53) rfl)), rfl, hnm⟩) (hw _ (List.mem_of_getElem? (i := 39) rfl)) (ty := (.object "java/lang/String")) (by decide) rfl rfl (g := (mkF m 11 #[.val (.ref a1), .val (.int p2), .val .null, .val (.ref a4)] [.null, (.ref a1)])) rfl rfl (hb hby d8_01_11)
  have Fw3 := F2_17.same W3
  have F3_30 := F2_16.wr W3
  have F3_31 := F2_18.other W3 (Or.inr (slot_ne (Or.inr (hw _ (List.mem_of_getElem? (i := 55) rfl))) (Or.inr (hw _ (List.mem_of_getElem? (i := 53) rfl))) (by decide) (t := (.object "java/lang/String")) (t' := (.object "java/lang/String")) (by decide) (by decide)))
  have F3_32 := Fw2.other W3 (Or.inr (slot_ne (Or.inr (hw _ (List.mem_of_getElem? (i := 51) rfl))) (Or.inr (hw _ (List.mem_of_getElem? (i := 53) rfl))) (by decide) (t := .int) (t' := (.object "java/lang/String")) (by decide) (by decide)))
  have K3 : Keep h0 h3 [a1] := K2.wr W3 (Or.inl (List.mem_of_getElem? (i := 0) rfl))
  have Z3 : n0 ≤ h3.size := Nat.le_trans Z2 (Keep.of_wr W3).1
  have N3 := Fr.snoc X3 N2 g1
  refine Goes.via st3 ?_
  show Goes p e below (T3.setTop (mkF m 14 #[.val (.ref a1), .val (.int p2), .val .null, .val (.ref a4)] [])) _
  refine Goes.via (fun t k => XS.aloadN X3.here hx rfl (hb hby d8_01_14) rfl rfl k) ?_
  show Goes p e below (T3.setTop (mkF m 15 #[.val (.ref a1), .val (.int p2), .val .null, .val (.ref a4)] [(.ref a1)])) _
  refine Goes.via (fun t k => XS.aloadN X3.here hx rfl (hb hby d8_01_15) rfl rfl k) ?_
  show Goes p e below (T3.setTop (mkF m 16 #[.val (.ref a1), .val (.int p2), .val .null, .val (.ref a4)] [(.ref a4), (.ref a1)])) _
  obtain ⟨T4, h4, X4, e4, W4, st4⟩ := putF X3 hx hZ hown (host := "") (Or.inl (hw _ (List.mem_of_getElem? (i := 54) rfl))) Via.refl e3 F3_31 F3_30 (Or.inr ⟨(hw _ (List.mem_of_getElem? (i := 55) rfl)), rfl, hnm⟩) (hw _ (List.mem_of_getElem? (i := 39) rfl)) (ty := (.object "java/lang/String")) (by decide) rfl rfl (g := (mkF m 16 #[.val (.ref a1), .val (.int p2), .val .null, .val (.ref a4)] [(.ref a4), (.ref a1)])) rfl rfl (hb hby d8_01_16)
  have Fw4 := F3_31.same W4
  have F4_44 := F3_30.wr W4
  have F4_45 := F3_32.other W4 (Or.inr (slot_ne (Or.inr (hw _ (List.mem_of_getElem? (i := 51) rfl))) (Or.inr (hw _ (List.mem_of_getElem? (i := 55) rfl))) (by decide) (t := .int) (t' := (.object "java/lang/String")) (by decide) (by decide)))
  have F4_46 := Fw3.other W4 (Or.inr (slot_ne (Or.inr (hw _ (List.mem_of_getElem? (i := 53) rfl))) (Or.inr (hw _ (List.mem_of_getElem? (i := 55) rfl))) (by decide) (t := (.object "java/lang/String")) (t' := (.object "java/lang/String")) (by decide) (by decide)))
  have K4 : Keep h0 h4 [a1] := K3.wr W4 (Or.inl (List.mem_of_getElem? (i := 0) rfl))
  have Z4 : n0 ≤ h4.size := Nat.le_trans Z3 (Keep.of_wr W4).1
  have N4 := Fr.snoc X4 N3 g1
  refine Goes.via st4 ?_
  show Goes p e below (T4.setTop (mkF m 19 #[.val (.ref a1), .val (.int p2), .val .null, .val (.ref a4)] [])) _
  obtain ⟨fs, hr, hrun, hended, hW, hsame⟩ := X4.leave (v := none) (fun _ => rfl)
  refine ⟨_, _, ?_, hrun, hended, _, _, rfl, ?_, ⟨_, rfl⟩, hW, hsame.mono (by decide) (by decide)⟩
  · exact X4.returnOut hx Bd.returns (hb hby d8_01_19) hr
  · show Q8_01 Z a1 a4 h0 n0 _ T4.heap _
    rw [e4]
    exact ⟨rfl, N4, K4, F4_44, Fw4⟩
theorem d8_10_0 : decode prog_87_method_1_code 0 = .ok (.aload_n 0, 1) := by decide +kernel
theorem d8_10_1 : decode prog_87_method_1_code 1 = .ok (.invokespecial 1, 3) := by decide +kernel
theorem d8_10_4 : decode prog_87_method_1_code 4 = .ok (.aload_n 0, 1) := by decide +kernel
theorem d8_10_5 : decode prog_87_method_1_code 5 = .ok (.iload_n 1, 1) := by decide +kernel
theorem d8_10_6 : decode prog_87_method_1_code 6 = .ok (.putfield 7, 3) := by decide +kernel
theorem d8_10_9 : decode prog_87_method_1_code 9 = .ok (.aload_n 0, 1) := by decide +kernel
theorem d8_10_10 : decode prog_87_method_1_code 10 = .ok (.aload_n 2, 1) := by decide +kernel
theorem d8_10_11 : decode prog_87_method_1_code 11 = .ok (.putfield 13, 3) := by decide +kernel
theorem d8_10_14 : decode prog_87_method_1_code 14 = .ok (.aload_n 0, 1) := by decide +kernel
theorem d8_10_15 : decode prog_87_method_1_code 15 = .ok (.aload_n 3, 1) := by decide +kernel
theorem d8_10_16 : decode prog_87_method_1_code 16 = .ok (.putfield 17, 3) := by decide +kernel
theorem d8_10_19 : decode prog_87_method_1_code 19 = .ok (.return_, 1) := by decide +kernel
theorem pn_8_10 : plainName "cascabel/model/selector/TypeSelector" = true := by first | (simp [plainName, overriddenIn]; done) | decide +kernel
theorem pd_8_10_0 : parseMethodDescriptor "()V" = some ⟨[], none⟩ := by decide +kernel
theorem ef_8_10 (m : MethodId) (x0 : Addr) (x1 : Int32) (x2 : Addr) : entryFrame m #[(.ref x0), (.int x1), (.ref x2), .null] 4 = mkF m 0 #[.val (.ref x0), .val (.int x1), .val (.ref x2), .val .null] [] := by first | (simp [entryFrame, mkF, argsToLocals, Value.category]; done) | rfl
def Q8_10 (Z : State) (a1 : Addr) (h0 : Heap) (n0 : Nat) (v : Option Value) (h : Heap) (L : List Loc) : Prop := v = none ∧ Fr n0 L ∧ Keep h0 h [a1] ∧ Exa Z h a1 "cascabel/model/selector/TypeSelector" ∧ Fld Z h a1 "cascabel/model/selector/TypeSelector" "name" "Ljava/lang/String;" .null
set_option maxRecDepth 65536 in
set_option maxHeartbeats 40000000 in
theorem rm8_10 (l : Launch) (Z : State) (a0 : Array Value) (hw : ∀ d ∈ tables_1, d.before a0 Z = true) (ws : List Jvm.Cond) (a1 : Addr) (p2 : Int32) (a3 : Addr) (h0 : Heap) (n0 : Nat) (Z0 : n0 ≤ h0.size) (E1 : Exa Z h0 a1 "cascabel/model/selector/TypeSelector") (F1 : Fld Z h0 a1 "cascabel/model/selector/TypeSelector" "offset" "I" (.int (0 : Int32))) (F2 : Fld Z h0 a1 "cascabel/model/selector/TypeSelector" "namespace" "Ljava/lang/String;" .null) (F3 : Fld Z h0 a1 "cascabel/model/selector/TypeSelector" "name" "Ljava/lang/String;" .null) (g1 : n0 ≤ a1) :
    MetFree l (⟨"cascabel/model/selector/TypeSelector", "<init>", "(ILjava/lang/String;Ljava/lang/String;)V"⟩ : MethodName) (head1 (Jvm.Cond.code (⟨"cascabel/model/selector/TypeSelector", "<init>", "(ILjava/lang/String;Ljava/lang/String;)V"⟩ : MethodName) prog_87_method_1_code 4 none :: ws) ({ frames := 2, cells := 0, slots := 0, locals := 24 } : Room)) (fun a U => a = #[(.ref a1), (.int p2), (.ref a3), .null] ∧ Z.Warmed39 U.vm ∧ U.heap = h0) (fun _ _ _ _ _ => True) (fun _ U o U' => ∃ v L, o = .returned v ∧ Q8_10 Z a1 h0 n0 v U'.heap L ∧ FrameEnd U o U' L ({ frames := 2, cells := 0, slots := 0, locals := 24 } : Room).cells ({ frames := 2, cells := 0, slots := 0, locals := 24 } : Room).slots) := by
  refine MetFree.of_bodySF (plainFor_of_name pn_8_10) hisR ?_
  intro p e s m args below meth c s₁ Bd hml0 hP hK
  obtain ⟨rfl, hZ, hh⟩ := hP
  have hx := Bd.exec
  have hby := Bd.bytes
  have hml : c.maxLocals = 4 := hml0
  have hown : s.vm.findClass "cascabel/model/selector/TypeSelector" = some m.cls := findClass_of_methodNamed Bd.named
  have hnm := (name_of_methodNamed Bd.named Bd.method).1
  have X0 : Stand p l e ({ frames := 2, cells := 0, slots := 0, locals := 24 } : Room) s m #[(.ref a1), (.int p2), (.ref a3), .null] below meth c s₁ [] 0 0 := Stand.of_body Bd
  have e0 : s₁.heap = h0 := by rw [← hh, Bd.state]; rfl
  have N0 := Fr.nil n0
  refine Goes.via (next := s₁.setTop (mkF m 0 #[.val (.ref a1), .val (.int p2), .val (.ref a3), .val .null] [])) (fun t k => castTop (ef_8_10 m a1 p2 a3) k) ?_
  refine Goes.via (fun t k => XS.aloadN X0.here hx rfl (hb hby d8_10_0) rfl rfl k) ?_
  show Goes p e below (s₁.setTop (mkF m 1 #[.val (.ref a1), .val (.int p2), .val (.ref a3), .val .null] [(.ref a1)])) _
  obtain ⟨_, _, ⟨T1, L1, k1, n1⟩, -, X1, ⟨Lc1, hQ1, l1, y1, z1⟩, st1⟩ := X0.specialBack hx (y := (⟨"java/lang/Record", "<init>", "()V"⟩ : MethodName)) rfl hown (mvT hZ (hw _ (List.mem_of_getElem? (i := 44) rfl))) (mvT hZ (hw _ (List.mem_of_getElem? (i := 45) rfl))) (mvT hZ (hw _ (List.mem_of_getElem? (i := 48) rfl))) (by decide) (backOf (W := 0) (rm9 l Z a0 hw [] a1  h0 n0 Z0 ) hZ (hw _ (List.mem_of_getElem? (i := 48) rfl)) (hw _ (List.mem_of_getElem? (i := 47) rfl)) (by decide) (by decide)) (g := (mkF m 1 #[.val (.ref a1), .val (.int p2), .val (.ref a3), .val .null] [(.ref a1)])) rfl (by rw [hml]; rfl) (Steps.refl _) (a := a1) (argsL := []) (rest := []) (lenOf pd_8_10_0 rfl) rfl (by show 2 * 0 + _ ≤ _; exact Nat.le_of_eq rfl) (hb hby d8_10_1) (fun _ _ => ⟨rfl, e0, (by decide : 0 + 0 ≤ _), (by decide : 0 + 0 ≤ _)⟩)
  dsimp only [Pt.U, Pt.locs, Pt.cells, Pt.slots] at X1 l1 y1 z1 st1 hQ1
  subst l1 y1 z1
  obtain ⟨rfl, N1q, er1⟩ := hQ1
  have e1 : T1.heap = h0 := er1
  have N1 := Fr.app N0 N1q
  refine Goes.via (fun t k => st1.trans k) ?_
  show Goes p e below (T1.setTop (mkF m 4 #[.val (.ref a1), .val (.int p2), .val (.ref a3), .val .null] [])) _
  refine Goes.via (fun t k => XS.aloadN X1.here hx rfl (hb hby d8_10_4) rfl rfl k) ?_
  show Goes p e below (T1.setTop (mkF m 5 #[.val (.ref a1), .val (.int p2), .val (.ref a3), .val .null] [(.ref a1)])) _
  refine Goes.via (fun t k => XS.iloadN X1.here hx rfl (hb hby d8_10_5) rfl k) ?_
  show Goes p e below (T1.setTop (mkF m 6 #[.val (.ref a1), .val (.int p2), .val (.ref a3), .val .null] [(.int p2), (.ref a1)])) _
  obtain ⟨T2, h2, X2, e2, W2, st2⟩ := putF X1 hx hZ hown (host := "") (Or.inl (hw _ (List.mem_of_getElem? (i := 50) rfl))) Via.refl e1 F1 E1 (Or.inr ⟨(hw _ (List.mem_of_getElem? (i := 51) rfl)), rfl, hnm⟩) (hw _ (List.mem_of_getElem? (i := 39) rfl)) (ty := .int) (by decide) rfl rfl (g := (mkF m 6 #[.val (.ref a1), .val (.int p2), .val (.ref a3), .val .null] [(.int p2), (.ref a1)])) rfl rfl (hb hby d8_10_6)
  have Fw2 := F1.same W2
  have F2_16 := E1.wr W2
  have F2_17 := F2.other W2 (Or.inr (slot_ne (Or.inr (hw _ (List.mem_of_getElem? (i := 53) rfl))) (Or.inr (hw _ (List.mem_of_getElem? (i := 51) rfl))) (by decide) (t := (.object "java/lang/String")) (t' := .int) (by decide) (by decide)))
  have F2_18 := F3.other W2 (Or.inr (slot_ne (Or.inr (hw _ (List.mem_of_getElem? (i := 55) rfl))) (Or.inr (hw _ (List.mem_of_getElem? (i := 51) rfl))) (by decide) (t := (.object "java/lang/String")) (t' := .int) (by decide) (by decide)))
  have K2 : Keep h0 h2 [a1] := (Keep.refl h0 [a1]).wr W2 (Or.inl (List.mem_of_getElem? (i := 0) rfl))
  have Z2 : n0 ≤ h2.size := Nat.le_trans Z0 (Keep.of_wr W2).1
  have N2 := Fr.snoc X2 N1 g1
  refine Goes.via st2 ?_
  show Goes p e below (T2.setTop (mkF m 9 #[.val (.ref a1), .val (.int p2), .val (.ref a3), .val .null] [])) _
  refine Goes.via (fun t k => XS.aloadN X2.here hx rfl (hb hby d8_10_9) rfl rfl k) ?_
  show Goes p e below (T2.setTop (mkF m 10 #[.val (.ref a1), .val (.int p2), .val (.ref a3), .val .null] [(.ref a1)])) _
  refine Goes.via (fun t k => XS.aloadN X2.here hx rfl (hb hby d8_10_10) rfl rfl k) ?_
  show Goes p e below (T2.setTop (mkF m 11 #[.val (.ref a1), .val (.int p2), .val (.ref a3), .val .null] [(.ref a3), (.ref a1)])) _
  obtain ⟨T3, h3, X3, e3, W3, st3⟩ := putF X2 hx hZ hown (host := "") (Or.inl (hw _ (List.mem_of_getElem? (i := 52) rfl))) Via.refl e2 F2_17 F2_16 (Or.inr ⟨(hw _ (List.mem_of_getElem? (i := 53) rfl)), rfl, hnm⟩) (hw _ (List.mem_of_getElem? (i := 39) rfl)) (ty := (.object "java/lang/String")) (by decide) rfl rfl (g := (mkF m 11 #[.val (.ref a1), .val (.int p2), .val (.ref a3), .val .null] [(.ref a3), (.ref a1)])) rfl rfl (hb hby d8_10_11)
  have Fw3 := F2_17.same W3
  have F3_30 := F2_16.wr W3
  have F3_31 := F2_18.other W3 (Or.inr (slot_ne (Or.inr (hw _ (List.mem_of_getElem? (i := 55) rfl))) (Or.inr (hw _ (List.mem_of_getElem? (i := 53) rfl))) (by decide) (t := (.object "java/lang/String")) (t' := (.object "java/lang/String")) (by decide) (by decide)))
  have F3_32 := Fw2.other W3 (Or.inr (slot_ne (Or.inr (hw _ (List.mem_of_getElem? (i := 51) rfl))) (Or.inr (hw _ (List.mem_of_getElem? (i := 53) rfl))) (by decide) (t := .int) (t' := (.object "java/lang/String")) (by decide) (by decide)))
  have K3 : Keep h0 h3 [a1] := K2.wr W3 (Or.inl (List.mem_of_getElem? (i := 0) rfl))
  have Z3 : n0 ≤ h3.size := Nat.le_trans Z2 (Keep.of_wr W3).1
  have N3 := Fr.snoc X3 N2 g1
  refine Goes.via st3 ?_
  show Goes p e below (T3.setTop (mkF m 14 #[.val (.ref a1), .val (.int p2), .val (.ref a3), .val .null] [])) _
  refine Goes.via (fun t k => XS.aloadN X3.here hx rfl (hb hby d8_10_14) rfl rfl k) ?_
  show Goes p e below (T3.setTop (mkF m 15 #[.val (.ref a1), .val (.int p2), .val (.ref a3), .val .null] [(.ref a1)])) _
  refine Goes.via (fun t k => XS.aloadN X3.here hx rfl (hb hby d8_10_15) rfl rfl k) ?_
  show Goes p e below (T3.setTop (mkF m 16 #[.val (.ref a1), .val (.int p2), .val (.ref a3), .val .null] [.null, (.ref a1)])) _
  obtain ⟨T4, h4, X4, e4, W4, st4⟩ := putF X3 hx hZ hown (host := "") (Or.inl (hw _ (List.mem_of_getElem? (i := 54) rfl))) Via.refl e3 F3_31 F3_30 (Or.inr ⟨(hw _ (List.mem_of_getElem? (i := 55) rfl)), rfl, hnm⟩) (hw _ (List.mem_of_getElem? (i := 39) rfl)) (ty := (.object "java/lang/String")) (by decide) rfl rfl (g := (mkF m 16 #[.val (.ref a1), .val (.int p2), .val (.ref a3), .val .null] [.null, (.ref a1)])) rfl rfl (hb hby d8_10_16)
  have Fw4 := F3_31.same W4
  have F4_44 := F3_30.wr W4
  have F4_45 := F3_32.other W4 (Or.inr (slot_ne (Or.inr (hw _ (List.mem_of_getElem? (i := 51) rfl))) (Or.inr (hw _ (List.mem_of_getElem? (i := 55) rfl))) (by decide) (t := .int) (t' := (.object "java/lang/String")) (by decide) (by decide)))
  have F4_46 := Fw3.other W4 (Or.inr (slot_ne (Or.inr (hw _ (List.mem_of_getElem? (i := 53) rfl))) (Or.inr (hw _ (List.mem_of_getElem? (i := 55) rfl))) (by decide) (t := (.object "java/lang/String")) (t' := (.object "java/lang/String")) (by decide) (by decide)))
  have K4 : Keep h0 h4 [a1] := K3.wr W4 (Or.inl (List.mem_of_getElem? (i := 0) rfl))
  have Z4 : n0 ≤ h4.size := Nat.le_trans Z3 (Keep.of_wr W4).1
  have N4 := Fr.snoc X4 N3 g1
  refine Goes.via st4 ?_
  show Goes p e below (T4.setTop (mkF m 19 #[.val (.ref a1), .val (.int p2), .val (.ref a3), .val .null] [])) _
  obtain ⟨fs, hr, hrun, hended, hW, hsame⟩ := X4.leave (v := none) (fun _ => rfl)
  refine ⟨_, _, ?_, hrun, hended, _, _, rfl, ?_, ⟨_, rfl⟩, hW, hsame.mono (by decide) (by decide)⟩
  · exact X4.returnOut hx Bd.returns (hb hby d8_10_19) hr
  · show Q8_10 Z a1 h0 n0 _ T4.heap _
    rw [e4]
    exact ⟨rfl, N4, K4, F4_44, Fw4⟩
theorem d8_11_0 : decode prog_87_method_1_code 0 = .ok (.aload_n 0, 1) := by decide +kernel
theorem d8_11_1 : decode prog_87_method_1_code 1 = .ok (.invokespecial 1, 3) := by decide +kernel
theorem d8_11_4 : decode prog_87_method_1_code 4 = .ok (.aload_n 0, 1) := by decide +kernel
theorem d8_11_5 : decode prog_87_method_1_code 5 = .ok (.iload_n 1, 1) := by decide +kernel
theorem d8_11_6 : decode prog_87_method_1_code 6 = .ok (.putfield 7, 3) := by decide +kernel
theorem d8_11_9 : decode prog_87_method_1_code 9 = .ok (.aload_n 0, 1) := by decide +kernel
theorem d8_11_10 : decode prog_87_method_1_code 10 = .ok (.aload_n 2, 1) := by decide +kernel
theorem d8_11_11 : decode prog_87_method_1_code 11 = .ok (.putfield 13, 3) := by decide +kernel
theorem d8_11_14 : decode prog_87_method_1_code 14 = .ok (.aload_n 0, 1) := by decide +kernel
theorem d8_11_15 : decode prog_87_method_1_code 15 = .ok (.aload_n 3, 1) := by decide +kernel
theorem d8_11_16 : decode prog_87_method_1_code 16 = .ok (.putfield 17, 3) := by decide +kernel
theorem d8_11_19 : decode prog_87_method_1_code 19 = .ok (.return_, 1) := by decide +kernel
theorem pn_8_11 : plainName "cascabel/model/selector/TypeSelector" = true := by first | (simp [plainName, overriddenIn]; done) | decide +kernel
theorem pd_8_11_0 : parseMethodDescriptor "()V" = some ⟨[], none⟩ := by decide +kernel
theorem ef_8_11 (m : MethodId) (x0 : Addr) (x1 : Int32) (x2 : Addr) (x3 : Addr) : entryFrame m #[(.ref x0), (.int x1), (.ref x2), (.ref x3)] 4 = mkF m 0 #[.val (.ref x0), .val (.int x1), .val (.ref x2), .val (.ref x3)] [] := by first | (simp [entryFrame, mkF, argsToLocals, Value.category]; done) | rfl
def Q8_11 (Z : State) (a1 : Addr) (a4 : Addr) (h0 : Heap) (n0 : Nat) (v : Option Value) (h : Heap) (L : List Loc) : Prop := v = none ∧ Fr n0 L ∧ Keep h0 h [a1] ∧ Exa Z h a1 "cascabel/model/selector/TypeSelector" ∧ Fld Z h a1 "cascabel/model/selector/TypeSelector" "name" "Ljava/lang/String;" (.ref a4)
set_option maxRecDepth 65536 in
set_option maxHeartbeats 40000000 in
theorem rm8_11 (l : Launch) (Z : State) (a0 : Array Value) (hw : ∀ d ∈ tables_1, d.before a0 Z = true) (ws : List Jvm.Cond) (a1 : Addr) (p2 : Int32) (a3 : Addr) (a4 : Addr) (h0 : Heap) (n0 : Nat) (Z0 : n0 ≤ h0.size) (E1 : Exa Z h0 a1 "cascabel/model/selector/TypeSelector") (F1 : Fld Z h0 a1 "cascabel/model/selector/TypeSelector" "offset" "I" (.int (0 : Int32))) (F2 : Fld Z h0 a1 "cascabel/model/selector/TypeSelector" "namespace" "Ljava/lang/String;" .null) (F3 : Fld Z h0 a1 "cascabel/model/selector/TypeSelector" "name" "Ljava/lang/String;" .null) (g1 : n0 ≤ a1) :
    MetFree l (⟨"cascabel/model/selector/TypeSelector", "<init>", "(ILjava/lang/String;Ljava/lang/String;)V"⟩ : MethodName) (head1 (Jvm.Cond.code (⟨"cascabel/model/selector/TypeSelector", "<init>", "(ILjava/lang/String;Ljava/lang/String;)V"⟩ : MethodName) prog_87_method_1_code 4 none :: ws) ({ frames := 2, cells := 0, slots := 0, locals := 24 } : Room)) (fun a U => a = #[(.ref a1), (.int p2), (.ref a3), (.ref a4)] ∧ Z.Warmed39 U.vm ∧ U.heap = h0) (fun _ _ _ _ _ => True) (fun _ U o U' => ∃ v L, o = .returned v ∧ Q8_11 Z a1 a4 h0 n0 v U'.heap L ∧ FrameEnd U o U' L ({ frames := 2, cells := 0, slots := 0, locals := 24 } : Room).cells ({ frames := 2, cells := 0, slots := 0, locals := 24 } : Room).slots) := by
  refine MetFree.of_bodySF (plainFor_of_name pn_8_11) hisR ?_
  intro p e s m args below meth c s₁ Bd hml0 hP hK
  obtain ⟨rfl, hZ, hh⟩ := hP
  have hx := Bd.exec
  have hby := Bd.bytes
  have hml : c.maxLocals = 4 := hml0
  have hown : s.vm.findClass "cascabel/model/selector/TypeSelector" = some m.cls := findClass_of_methodNamed Bd.named
  have hnm := (name_of_methodNamed Bd.named Bd.method).1
  have X0 : Stand p l e ({ frames := 2, cells := 0, slots := 0, locals := 24 } : Room) s m #[(.ref a1), (.int p2), (.ref a3), (.ref a4)] below meth c s₁ [] 0 0 := Stand.of_body Bd
  have e0 : s₁.heap = h0 := by rw [← hh, Bd.state]; rfl
  have N0 := Fr.nil n0
  refine Goes.via (next := s₁.setTop (mkF m 0 #[.val (.ref a1), .val (.int p2), .val (.ref a3), .val (.ref a4)] [])) (fun t k => castTop (ef_8_11 m a1 p2 a3 a4) k) ?_
  refine Goes.via (fun t k => XS.aloadN X0.here hx rfl (hb hby d8_11_0) rfl rfl k) ?_
  show Goes p e below (s₁.setTop (mkF m 1 #[.val (.ref a1), .val (.int p2), .val (.ref a3), .val (.ref a4)] [(.ref a1)])) _
  obtain ⟨_, _, ⟨T1, L1, k1, n1⟩, -, X1, ⟨Lc1, hQ1, l1, y1, z1⟩, st1⟩ := X0.specialBack hx (y := (⟨"java/lang/Record", "<init>", "()V"⟩ : MethodName)) rfl hown (mvT hZ (hw _ (List.mem_of_getElem? (i := 44) rfl))) (mvT hZ (hw _ (List.mem_of_getElem? (i := 45) rfl))) (mvT hZ (hw _ (List.mem_of_getElem? (i := 48) rfl))) (by decide) (backOf (W := 0) (rm9 l Z a0 hw [] a1  h0 n0 Z0 ) hZ (hw _ (List.mem_of_getElem? (i := 48) rfl)) (hw _ (List.mem_of_getElem? (i := 47) rfl)) (by decide) (by decide)) (g := (mkF m 1 #[.val (.ref a1), .val (.int p2), .val (.ref a3), .val (.ref a4)] [(.ref a1)])) rfl (by rw [hml]; rfl) (Steps.refl _) (a := a1) (argsL := []) (rest := []) (lenOf pd_8_11_0 rfl) rfl (by show 2 * 0 + _ ≤ _; exact Nat.le_of_eq rfl) (hb hby d8_11_1) (fun _ _ => ⟨rfl, e0, (by decide : 0 + 0 ≤ _), (by decide : 0 + 0 ≤ _)⟩)
  dsimp only [Pt.U, Pt.locs, Pt.cells, Pt.slots] at X1 l1 y1 z1 st1 hQ1
  subst l1 y1 z1
  obtain ⟨rfl, N1q, er1⟩ := hQ1
  have e1 : T1.heap = h0 := er1
  have N1 := Fr.app N0 N1q
  refine Goes.via (fun t k => st1.trans k) ?_
  show Goes p e below (T1.setTop (mkF m 4 #[.val (.ref a1), .val (.int p2), .val (.ref a3), .val (.ref a4)] [])) _
  refine Goes.via (fun t k => XS.aloadN X1.here hx rfl (hb hby d8_11_4) rfl rfl k) ?_
  show Goes p e below (T1.setTop (mkF m 5 #[.val (.ref a1), .val (.int p2), .val (.ref a3), .val (.ref a4)] [(.ref a1)])) _
  refine Goes.via (fun t k => XS.iloadN X1.here hx rfl (hb hby d8_11_5) rfl k) ?_
  show Goes p e below (T1.setTop (mkF m 6 #[.val (.ref a1), .val (.int p2), .val (.ref a3), .val (.ref a4)] [(.int p2), (.ref a1)])) _
  obtain ⟨T2, h2, X2, e2, W2, st2⟩ := putF X1 hx hZ hown (host := "") (Or.inl (hw _ (List.mem_of_getElem? (i := 50) rfl))) Via.refl e1 F1 E1 (Or.inr ⟨(hw _ (List.mem_of_getElem? (i := 51) rfl)), rfl, hnm⟩) (hw _ (List.mem_of_getElem? (i := 39) rfl)) (ty := .int) (by decide) rfl rfl (g := (mkF m 6 #[.val (.ref a1), .val (.int p2), .val (.ref a3), .val (.ref a4)] [(.int p2), (.ref a1)])) rfl rfl (hb hby d8_11_6)
  have Fw2 := F1.same W2
  have F2_16 := E1.wr W2
  have F2_17 := F2.other W2 (Or.inr (slot_ne (Or.inr (hw _ (List.mem_of_getElem? (i := 53) rfl))) (Or.inr (hw _ (List.mem_of_getElem? (i := 51) rfl))) (by decide) (t := (.object "java/lang/String")) (t' := .int) (by decide) (by decide)))
  have F2_18 := F3.other W2 (Or.inr (slot_ne (Or.inr (hw _ (List.mem_of_getElem? (i := 55) rfl))) (Or.inr (hw _ (List.mem_of_getElem? (i := 51) rfl))) (by decide) (t := (.object "java/lang/String")) (t' := .int) (by decide) (by decide)))
  have K2 : Keep h0 h2 [a1] := (Keep.refl h0 [a1]).wr W2 (Or.inl (List.mem_of_getElem? (i := 0) rfl))
  have Z2 : n0 ≤ h2.size := Nat.le_trans Z0 (Keep.of_wr W2).1
  have N2 := Fr.snoc X2 N1 g1
  refine Goes.via st2 ?_
  show Goes p e below (T2.setTop (mkF m 9 #[.val (.ref a1), .val (.int p2), .val (.ref a3), .val (.ref a4)] [])) _
  refine Goes.via (fun t k => XS.aloadN X2.here hx rfl (hb hby d8_11_9) rfl rfl k) ?_
  show Goes p e below (T2.setTop (mkF m 10 #[.val (.ref a1), .val (.int p2), .val (.ref a3), .val (.ref a4)] [(.ref a1)])) _
  refine Goes.via (fun t k => XS.aloadN X2.here hx rfl (hb hby d8_11_10) rfl rfl k) ?_
  show Goes p e below (T2.setTop (mkF m 11 #[.val (.ref a1), .val (.int p2), .val (.ref a3), .val (.ref a4)] [(.ref a3), (.ref a1)])) _
  obtain ⟨T3, h3, X3, e3, W3, st3⟩ := putF X2 hx hZ hown (host := "") (Or.inl (hw _ (List.mem_of_getElem? (i := 52) rfl))) Via.refl e2 F2_17 F2_16 (Or.inr ⟨(hw _ (List.mem_of_getElem? (i := 53) rfl)), rfl, hnm⟩) (hw _ (List.mem_of_getElem? (i := 39) rfl)) (ty := (.object "java/lang/String")) (by decide) rfl rfl (g := (mkF m 11 #[.val (.ref a1), .val (.int p2), .val (.ref a3), .val (.ref a4)] [(.ref a3), (.ref a1)])) rfl rfl (hb hby d8_11_11)
  have Fw3 := F2_17.same W3
  have F3_30 := F2_16.wr W3
  have F3_31 := F2_18.other W3 (Or.inr (slot_ne (Or.inr (hw _ (List.mem_of_getElem? (i := 55) rfl))) (Or.inr (hw _ (List.mem_of_getElem? (i := 53) rfl))) (by decide) (t := (.object "java/lang/String")) (t' := (.object "java/lang/String")) (by decide) (by decide)))
  have F3_32 := Fw2.other W3 (Or.inr (slot_ne (Or.inr (hw _ (List.mem_of_getElem? (i := 51) rfl))) (Or.inr (hw _ (List.mem_of_getElem? (i := 53) rfl))) (by decide) (t := .int) (t' := (.object "java/lang/String")) (by decide) (by decide)))
  have K3 : Keep h0 h3 [a1] := K2.wr W3 (Or.inl (List.mem_of_getElem? (i := 0) rfl))
  have Z3 : n0 ≤ h3.size := Nat.le_trans Z2 (Keep.of_wr W3).1
  have N3 := Fr.snoc X3 N2 g1
  refine Goes.via st3 ?_
  show Goes p e below (T3.setTop (mkF m 14 #[.val (.ref a1), .val (.int p2), .val (.ref a3), .val (.ref a4)] [])) _
  refine Goes.via (fun t k => XS.aloadN X3.here hx rfl (hb hby d8_11_14) rfl rfl k) ?_
  show Goes p e below (T3.setTop (mkF m 15 #[.val (.ref a1), .val (.int p2), .val (.ref a3), .val (.ref a4)] [(.ref a1)])) _
  refine Goes.via (fun t k => XS.aloadN X3.here hx rfl (hb hby d8_11_15) rfl rfl k) ?_
  show Goes p e below (T3.setTop (mkF m 16 #[.val (.ref a1), .val (.int p2), .val (.ref a3), .val (.ref a4)] [(.ref a4), (.ref a1)])) _
  obtain ⟨T4, h4, X4, e4, W4, st4⟩ := putF X3 hx hZ hown (host := "") (Or.inl (hw _ (List.mem_of_getElem? (i := 54) rfl))) Via.refl e3 F3_31 F3_30 (Or.inr ⟨(hw _ (List.mem_of_getElem? (i := 55) rfl)), rfl, hnm⟩) (hw _ (List.mem_of_getElem? (i := 39) rfl)) (ty := (.object "java/lang/String")) (by decide) rfl rfl (g := (mkF m 16 #[.val (.ref a1), .val (.int p2), .val (.ref a3), .val (.ref a4)] [(.ref a4), (.ref a1)])) rfl rfl (hb hby d8_11_16)
  have Fw4 := F3_31.same W4
  have F4_44 := F3_30.wr W4
  have F4_45 := F3_32.other W4 (Or.inr (slot_ne (Or.inr (hw _ (List.mem_of_getElem? (i := 51) rfl))) (Or.inr (hw _ (List.mem_of_getElem? (i := 55) rfl))) (by decide) (t := .int) (t' := (.object "java/lang/String")) (by decide) (by decide)))
  have F4_46 := Fw3.other W4 (Or.inr (slot_ne (Or.inr (hw _ (List.mem_of_getElem? (i := 53) rfl))) (Or.inr (hw _ (List.mem_of_getElem? (i := 55) rfl))) (by decide) (t := (.object "java/lang/String")) (t' := (.object "java/lang/String")) (by decide) (by decide)))
  have K4 : Keep h0 h4 [a1] := K3.wr W4 (Or.inl (List.mem_of_getElem? (i := 0) rfl))
  have Z4 : n0 ≤ h4.size := Nat.le_trans Z3 (Keep.of_wr W4).1
  have N4 := Fr.snoc X4 N3 g1
  refine Goes.via st4 ?_
  show Goes p e below (T4.setTop (mkF m 19 #[.val (.ref a1), .val (.int p2), .val (.ref a3), .val (.ref a4)] [])) _
  obtain ⟨fs, hr, hrun, hended, hW, hsame⟩ := X4.leave (v := none) (fun _ => rfl)
  refine ⟨_, _, ?_, hrun, hended, _, _, rfl, ?_, ⟨_, rfl⟩, hW, hsame.mono (by decide) (by decide)⟩
  · exact X4.returnOut hx Bd.returns (hb hby d8_11_19) hr
  · show Q8_11 Z a1 a4 h0 n0 _ T4.heap _
    rw [e4]
    exact ⟨rfl, N4, K4, F4_44, Fw4⟩
theorem d10_0_0 : decode prog_87_method_2_code 0 = .ok (.aload_n 0, 1) := by decide +kernel
theorem d10_0_1 : decode prog_87_method_2_code 1 = .ok (.getfield 17, 3) := by decide +kernel
theorem d10_0_4 : decode prog_87_method_2_code 4 = .ok (.ifnonnull 7, 3) := by decide +kernel
theorem d10_0_7 : decode prog_87_method_2_code 7 = .ok (.iconst 1, 1) := by decide +kernel
theorem d10_0_8 : decode prog_87_method_2_code 8 = .ok (.goto 4, 3) := by decide +kernel
theorem d10_0_12 : decode prog_87_method_2_code 12 = .ok (.ireturn, 1) := by decide +kernel
theorem pn_10_0 : plainName "cascabel/model/selector/TypeSelector" = true := by first | (simp [plainName, overriddenIn]; done) | decide +kernel
theorem ef_10_0 (m : MethodId) (x0 : Addr) : entryFrame m #[(.ref x0)] 1 = mkF m 0 #[.val (.ref x0)] [] := by first | (simp [entryFrame, mkF, argsToLocals, Value.category]; done) | rfl
def Q10_0 (Z : State) (h0 : Heap) (n0 : Nat) (v : Option Value) (h : Heap) (L : List Loc) : Prop := v = some (.int (1 : Int32)) ∧ Fr n0 L ∧ h = h0
set_option maxRecDepth 65536 in
set_option maxHeartbeats 40000000 in
theorem rm10_0 (l : Launch) (Z : State) (a0 : Array Value) (hw : ∀ d ∈ tables_1, d.before a0 Z = true) (ws : List Jvm.Cond) (a1 : Addr) (h0 : Heap) (n0 : Nat) (Z0 : n0 ≤ h0.size) (F3 : Fld Z h0 a1 "cascabel/model/selector/TypeSelector" "name" "Ljava/lang/String;" .null) :
    MetFree l (⟨"cascabel/model/selector/TypeSelector", "isUniversal", "()Z"⟩ : MethodName) (head1 (Jvm.Cond.code (⟨"cascabel/model/selector/TypeSelector", "isUniversal", "()Z"⟩ : MethodName) prog_87_method_2_code 1 (some .boolean) :: ws) ({ frames := 0, cells := 0, slots := 0, locals := 0 } : Room)) (fun a U => a = #[(.ref a1)] ∧ Z.Warmed39 U.vm ∧ U.heap = h0) (fun _ _ _ _ _ => True) (fun _ U o U' => ∃ v L, o = .returned v ∧ Q10_0 Z  h0 n0 v U'.heap L ∧ FrameEnd U o U' L ({ frames := 0, cells := 0, slots := 0, locals := 0 } : Room).cells ({ frames := 0, cells := 0, slots := 0, locals := 0 } : Room).slots) := by
  refine MetFree.of_bodySF (plainFor_of_name pn_10_0) hisR ?_
  intro p e s m args below meth c s₁ Bd hml0 hP hK
  obtain ⟨rfl, hZ, hh⟩ := hP
  have hx := Bd.exec
  have hby := Bd.bytes
  have hml : c.maxLocals = 1 := hml0
  have hown : s.vm.findClass "cascabel/model/selector/TypeSelector" = some m.cls := findClass_of_methodNamed Bd.named
  have hnm := (name_of_methodNamed Bd.named Bd.method).1
  have X0 : Stand p l e ({ frames := 0, cells := 0, slots := 0, locals := 0 } : Room) s m #[(.ref a1)] below meth c s₁ [] 0 0 := Stand.of_body Bd
  have e0 : s₁.heap = h0 := by rw [← hh, Bd.state]; rfl
  have N0 := Fr.nil n0
  refine Goes.via (next := s₁.setTop (mkF m 0 #[.val (.ref a1)] [])) (fun t k => castTop (ef_10_0 m a1) k) ?_
  refine Goes.via (fun t k => XS.aloadN X0.here hx rfl (hb hby d10_0_0) rfl rfl k) ?_
  show Goes p e below (s₁.setTop (mkF m 1 #[.val (.ref a1)] [(.ref a1)])) _
  obtain ⟨T1, X1, e1, st1⟩ := getF X0 hx hZ hown (host := "") (Or.inl (hw _ (List.mem_of_getElem? (i := 54) rfl))) Via.refl e0 F3 (g := (mkF m 1 #[.val (.ref a1)] [(.ref a1)])) rfl rfl (hb hby d10_0_1)
  refine Goes.via st1 ?_
  show Goes p e below (T1.setTop (mkF m 4 #[.val (.ref a1)] [.null])) _
  refine Goes.via (fun t k => XS.ifnonnullNo X1.here hx rfl (hb hby d10_0_4) rfl k) ?_
  show Goes p e below (T1.setTop (mkF m 7 #[.val (.ref a1)] [])) _
  refine Goes.via (fun t k => XS.iconst X1.here hx rfl (hb hby d10_0_7) k) ?_
  show Goes p e below (T1.setTop (mkF m 8 #[.val (.ref a1)] [(.int (1 : Int32))])) _
  refine Goes.via (fun t k => XS.goto X1.here hx rfl (pc0 := 8) (pc' := 12) rfl (hb hby d10_0_8) (by decide) (by decide) k) ?_
  show Goes p e below (T1.setTop (mkF m 12 #[.val (.ref a1)] [(.int (1 : Int32))])) _
  obtain ⟨fs, hr, hrun, hended, hW, hsame⟩ := X1.leave (v := some (.int (1 : Int32))) (fun h => by rw [Bd.returns] at h; cases h)
  refine ⟨_, _, ?_, hrun, hended, _, _, rfl, ?_, ⟨_, rfl⟩, hW, hsame.mono (by decide) (by decide)⟩
  · exact retN X1 hx (t := .boolean) Bd.returns (by simp) (hb hby d10_0_12) hr
  · show Q10_0 Z  h0 n0 _ T1.heap _
    rw [e1]
    exact ⟨rfl, N0, rfl⟩
theorem d10_1_0 : decode prog_87_method_2_code 0 = .ok (.aload_n 0, 1) := by decide +kernel
theorem d10_1_1 : decode prog_87_method_2_code 1 = .ok (.getfield 17, 3) := by decide +kernel
theorem d10_1_4 : decode prog_87_method_2_code 4 = .ok (.ifnonnull 7, 3) := by decide +kernel
theorem d10_1_11 : decode prog_87_method_2_code 11 = .ok (.iconst 0, 1) := by decide +kernel
theorem d10_1_12 : decode prog_87_method_2_code 12 = .ok (.ireturn, 1) := by decide +kernel
theorem pn_10_1 : plainName "cascabel/model/selector/TypeSelector" = true := by first | (simp [plainName, overriddenIn]; done) | decide +kernel
theorem ef_10_1 (m : MethodId) (x0 : Addr) : entryFrame m #[(.ref x0)] 1 = mkF m 0 #[.val (.ref x0)] [] := by first | (simp [entryFrame, mkF, argsToLocals, Value.category]; done) | rfl
def Q10_1 (Z : State) (h0 : Heap) (n0 : Nat) (v : Option Value) (h : Heap) (L : List Loc) : Prop := v = some (.int (0 : Int32)) ∧ Fr n0 L ∧ h = h0
set_option maxRecDepth 65536 in
set_option maxHeartbeats 40000000 in
theorem rm10_1 (l : Launch) (Z : State) (a0 : Array Value) (hw : ∀ d ∈ tables_1, d.before a0 Z = true) (ws : List Jvm.Cond) (a1 : Addr) (a4 : Addr) (h0 : Heap) (n0 : Nat) (Z0 : n0 ≤ h0.size) (F3 : Fld Z h0 a1 "cascabel/model/selector/TypeSelector" "name" "Ljava/lang/String;" (.ref a4)) :
    MetFree l (⟨"cascabel/model/selector/TypeSelector", "isUniversal", "()Z"⟩ : MethodName) (head1 (Jvm.Cond.code (⟨"cascabel/model/selector/TypeSelector", "isUniversal", "()Z"⟩ : MethodName) prog_87_method_2_code 1 (some .boolean) :: ws) ({ frames := 0, cells := 0, slots := 0, locals := 0 } : Room)) (fun a U => a = #[(.ref a1)] ∧ Z.Warmed39 U.vm ∧ U.heap = h0) (fun _ _ _ _ _ => True) (fun _ U o U' => ∃ v L, o = .returned v ∧ Q10_1 Z  h0 n0 v U'.heap L ∧ FrameEnd U o U' L ({ frames := 0, cells := 0, slots := 0, locals := 0 } : Room).cells ({ frames := 0, cells := 0, slots := 0, locals := 0 } : Room).slots) := by
  refine MetFree.of_bodySF (plainFor_of_name pn_10_1) hisR ?_
  intro p e s m args below meth c s₁ Bd hml0 hP hK
  obtain ⟨rfl, hZ, hh⟩ := hP
  have hx := Bd.exec
  have hby := Bd.bytes
  have hml : c.maxLocals = 1 := hml0
  have hown : s.vm.findClass "cascabel/model/selector/TypeSelector" = some m.cls := findClass_of_methodNamed Bd.named
  have hnm := (name_of_methodNamed Bd.named Bd.method).1
  have X0 : Stand p l e ({ frames := 0, cells := 0, slots := 0, locals := 0 } : Room) s m #[(.ref a1)] below meth c s₁ [] 0 0 := Stand.of_body Bd
  have e0 : s₁.heap = h0 := by rw [← hh, Bd.state]; rfl
  have N0 := Fr.nil n0
  refine Goes.via (next := s₁.setTop (mkF m 0 #[.val (.ref a1)] [])) (fun t k => castTop (ef_10_1 m a1) k) ?_
  refine Goes.via (fun t k => XS.aloadN X0.here hx rfl (hb hby d10_1_0) rfl rfl k) ?_
  show Goes p e below (s₁.setTop (mkF m 1 #[.val (.ref a1)] [(.ref a1)])) _
  obtain ⟨T1, X1, e1, st1⟩ := getF X0 hx hZ hown (host := "") (Or.inl (hw _ (List.mem_of_getElem? (i := 54) rfl))) Via.refl e0 F3 (g := (mkF m 1 #[.val (.ref a1)] [(.ref a1)])) rfl rfl (hb hby d10_1_1)
  refine Goes.via st1 ?_
  show Goes p e below (T1.setTop (mkF m 4 #[.val (.ref a1)] [(.ref a4)])) _
  refine Goes.via (fun t k => XS.ifnonnullYes X1.here hx rfl (pc0 := 4) (pc' := 11) rfl (hb hby d10_1_4) rfl (by decide) (by decide) k) ?_
  show Goes p e below (T1.setTop (mkF m 11 #[.val (.ref a1)] [])) _
  refine Goes.via (fun t k => XS.iconst X1.here hx rfl (hb hby d10_1_11) k) ?_
  show Goes p e below (T1.setTop (mkF m 12 #[.val (.ref a1)] [(.int (0 : Int32))])) _
  obtain ⟨fs, hr, hrun, hended, hW, hsame⟩ := X1.leave (v := some (.int (0 : Int32))) (fun h => by rw [Bd.returns] at h; cases h)
  refine ⟨_, _, ?_, hrun, hended, _, _, rfl, ?_, ⟨_, rfl⟩, hW, hsame.mono (by decide) (by decide)⟩
  · exact retN X1 hx (t := .boolean) Bd.returns (by simp) (hb hby d10_1_12) hr
  · show Q10_1 Z  h0 n0 _ T1.heap _
    rw [e1]
    exact ⟨rfl, N0, rfl⟩
theorem own_len (x : Int32) : (x &&& (3 : Int32)) = 0 ∨ (x &&& (3 : Int32)) = 1 ∨ (x &&& (3 : Int32)) = 2 ∨ (x &&& (3 : Int32)) = 3 := by
  have a1 := c_mask x 3 2 (by decide) (by decide)
  have hp : ((2 ^ 2 : Nat) : Int) = 4 := by decide
  rw [hp] at a1
  simp only [← Int32.toInt_inj, a1, show (0 : Int32).toInt = 0 from by decide, show (1 : Int32).toInt = 1 from by decide, show (2 : Int32).toInt = 2 from by decide, show (3 : Int32).toInt = 3 from by decide]
  omega
theorem pn_0 : plainName "cascabel/model/selector/TypeSelectorIsUniversalPinLaw" = true := by first | (simp [plainName, overriddenIn]; done) | decide +kernel
theorem pd_0_0 : parseMethodDescriptor "(IIIZ)Ljava/lang/String;" = some ⟨[.int, .int, .int, .boolean], some (.object "java/lang/String")⟩ := by decide +kernel
theorem pd_0_1 : parseMethodDescriptor "(ILjava/lang/String;Ljava/lang/String;)V" = some ⟨[.int, (.object "java/lang/String"), (.object "java/lang/String")], none⟩ := by decide +kernel
theorem pd_0_2 : parseMethodDescriptor "()Z" = some ⟨[], some .boolean⟩ := by decide +kernel
theorem ef_0 (m : MethodId) (x0 : Int32) (x1 : Int32) (x2 : Int32) (x3 : Int32) (x4 : Int32) : entryFrame m #[(.int x0), (.int x1), (.int x2), (.int x3), (.int x4)] maxLocals = mkF m 0 #[.val (.int x0), .val (.int x1), .val (.int x2), .val (.int x3), .val (.int x4), .unset, .unset, .unset, .unset, .unset] [] := by first | (simp [entryFrame, mkF, argsToLocals, Value.category, maxLocals]; done) | rfl
def v0_19_0 (p2 : Int32) : Int32 := (if (((p2.toUInt32 >>> ((2 : Int32) &&& 31).toUInt32).toInt32) &&& (1 : Int32)) = (0 : Int32) then (0 : Int32) else (1 : Int32))
def v0_47_1 (p3 : Int32) : Int32 := (if (((p3.toUInt32 >>> ((2 : Int32) &&& 31).toUInt32).toInt32) &&& (1 : Int32)) = (0 : Int32) then (0 : Int32) else (1 : Int32))
def Q0 (Z : State) (h0 : Heap) (n0 : Nat) (v : Option Value) (h : Heap) (vm : Vm) (L : List Loc) : Prop := v = some (.int 1) ∧ Fr n0 L
set_option maxRecDepth 65536 in
set_option maxHeartbeats 40000000 in
theorem rm0 (l : Launch) (Z : State) (a0 : Array Value) (hw : ∀ d ∈ tables_1, d.before a0 Z = true) (ws : List Jvm.Cond) (p1 : Int32) (p2 : Int32) (p3 : Int32) (p4 : Int32) (p5 : Int32) (w0 : Int32) (h0 : Heap) (n0 : Nat) (Z0 : n0 ≤ h0.size) (O0 : Old Z n0 h0) (St : own_St Z w0) :
    MetFree l x (head1 (Jvm.Cond.code x code maxLocals ret :: ws) room_1) (fun a U => a = #[(.int p1), (.int p2), (.int p3), (.int p4), (.int p5)] ∧ Z.Warmed39 U.vm ∧ U.heap = h0 ∧ True) (fun _ _ _ _ _ => True) (fun _ U o U' => ∃ v L, o = .returned v ∧ Q0 Z  h0 n0 v U'.heap U'.vm L ∧ ReturnedEndW U o U' L room_1.cells room_1.slots) := by
  refine MetFree.of_bodySF (plainFor_of_name pn_0) hisR ?_
  intro p e s m args below meth c s₁ Bd hml0 hP hK
  obtain ⟨rfl, hZ, hh, hI⟩ := hP
  have hx := Bd.exec
  have hby := Bd.bytes
  have hml : c.maxLocals = 10 := hml0
  have hown : s.vm.findClass "cascabel/model/selector/TypeSelectorIsUniversalPinLaw" = some m.cls := findClass_of_methodNamed Bd.named
  have hnm := (name_of_methodNamed Bd.named Bd.method).1
  have X0 : Stand p l e room_1 (s.setVm s.vm) m #[(.int p1), (.int p2), (.int p3), (.int p4), (.int p5)] below meth c s₁ [] 0 0 := Stand.of_body Bd
  have e0 : s₁.heap = h0 := by rw [← hh, Bd.state]; rfl
  have N0 := Fr.nil n0
  have hS : s.Since s.vm 0 := (State.WarmedH.refl s).since 0
  have hk : 0 ≤ h0.size := Nat.zero_le _
  refine Goes.via (next := s₁.setTop (mkF m 0 #[.val (.int p1), .val (.int p2), .val (.int p3), .val (.int p4), .val (.int p5), .unset, .unset, .unset, .unset, .unset] [])) (fun t k => castTop (ef_0 m p1 p2 p3 p4 p5) k) ?_
  refine Goes.via (fun t k => XS.iloadN X0.here hx rfl (hb hby at_0) rfl k) ?_
  show Goes p e below (s₁.setTop (mkF m 1 #[.val (.int p1), .val (.int p2), .val (.int p3), .val (.int p4), .val (.int p5), .unset, .unset, .unset, .unset, .unset] [(.int p2)])) _
  refine Goes.via (fun t k => XS.iconst X0.here hx rfl (hb hby at_1) k) ?_
  show Goes p e below (s₁.setTop (mkF m 2 #[.val (.int p1), .val (.int p2), .val (.int p3), .val (.int p4), .val (.int p5), .unset, .unset, .unset, .unset, .unset] [(.int (3 : Int32)), (.int p2)])) _
  refine Goes.via (fun t k => XS.iand X0.here hx rfl (hb hby at_2) rfl k) ?_
  show Goes p e below (s₁.setTop (mkF m 3 #[.val (.int p1), .val (.int p2), .val (.int p3), .val (.int p4), .val (.int p5), .unset, .unset, .unset, .unset, .unset] [(.int (p2 &&& (3 : Int32)))])) _
  rcases own_len p2 with hlA | hlA | hlA | hlA
  · rw [hlA]
    show Goes p e below (s₁.setTop (mkF m 3 #[.val (.int p1), .val (.int p2), .val (.int p3), .val (.int p4), .val (.int p5), .unset, .unset, .unset, .unset, .unset] [(.int (0 : Int32))])) _
    refine Goes.via (fun t k => XS.iloadN X0.here hx rfl (hb hby at_3) rfl k) ?_
    show Goes p e below (s₁.setTop (mkF m 4 #[.val (.int p1), .val (.int p2), .val (.int p3), .val (.int p4), .val (.int p5), .unset, .unset, .unset, .unset, .unset] [(.int p4), (.int (0 : Int32))])) _
    refine Goes.via (fun t k => XS.iload X0.here hx rfl (hb hby at_4) rfl k) ?_
    show Goes p e below (s₁.setTop (mkF m 6 #[.val (.int p1), .val (.int p2), .val (.int p3), .val (.int p4), .val (.int p5), .unset, .unset, .unset, .unset, .unset] [(.int p5), (.int p4), (.int (0 : Int32))])) _
    refine Goes.via (fun t k => XS.iloadN X0.here hx rfl (hb hby at_6) rfl k) ?_
    show Goes p e below (s₁.setTop (mkF m 7 #[.val (.int p1), .val (.int p2), .val (.int p3), .val (.int p4), .val (.int p5), .unset, .unset, .unset, .unset, .unset] [(.int p2), (.int p5), (.int p4), (.int (0 : Int32))])) _
    refine Goes.via (fun t k => XS.iconst X0.here hx rfl (hb hby at_7) k) ?_
    show Goes p e below (s₁.setTop (mkF m 8 #[.val (.int p1), .val (.int p2), .val (.int p3), .val (.int p4), .val (.int p5), .unset, .unset, .unset, .unset, .unset] [(.int (2 : Int32)), (.int p2), (.int p5), (.int p4), (.int (0 : Int32))])) _
    refine Goes.via (fun t k => XS.iushr X0.here hx rfl (hb hby at_8) rfl k) ?_
    show Goes p e below (s₁.setTop (mkF m 9 #[.val (.int p1), .val (.int p2), .val (.int p3), .val (.int p4), .val (.int p5), .unset, .unset, .unset, .unset, .unset] [(.int ((p2.toUInt32 >>> ((2 : Int32) &&& 31).toUInt32).toInt32)), (.int p5), (.int p4), (.int (0 : Int32))])) _
    refine Goes.via (fun t k => XS.iconst X0.here hx rfl (hb hby at_9) k) ?_
    show Goes p e below (s₁.setTop (mkF m 10 #[.val (.int p1), .val (.int p2), .val (.int p3), .val (.int p4), .val (.int p5), .unset, .unset, .unset, .unset, .unset] [(.int (1 : Int32)), (.int ((p2.toUInt32 >>> ((2 : Int32) &&& 31).toUInt32).toInt32)), (.int p5), (.int p4), (.int (0 : Int32))])) _
    refine Goes.via (fun t k => XS.iand X0.here hx rfl (hb hby at_10) rfl k) ?_
    show Goes p e below (s₁.setTop (mkF m 11 #[.val (.int p1), .val (.int p2), .val (.int p3), .val (.int p4), .val (.int p5), .unset, .unset, .unset, .unset, .unset] [(.int (((p2.toUInt32 >>> ((2 : Int32) &&& 31).toUInt32).toInt32) &&& (1 : Int32))), (.int p5), (.int p4), (.int (0 : Int32))])) _
    refine Goes.via (next := s₁.setTop (mkF m 19 #[.val (.int p1), .val (.int p2), .val (.int p3), .val (.int p4), .val (.int p5), .unset, .unset, .unset, .unset, .unset] [(.int (v0_19_0 p2)), (.int p5), (.int p4), (.int (0 : Int32))])) (fun t k => ?_) ?_
    · by_cases hc11_1 : (((p2.toUInt32 >>> ((2 : Int32) &&& 31).toUInt32).toInt32) &&& (1 : Int32)) = (0 : Int32)
      · refine XS.ifYes X0.here hx rfl (pc0 := 11) (pc' := 18) rfl (hb hby at_11) rfl ((if0 _ _).trans (teq hc11_1).1) (by decide) (by decide) ?_
        show Steps p.tables e below (s₁.setTop (mkF m 18 #[.val (.int p1), .val (.int p2), .val (.int p3), .val (.int p4), .val (.int p5), .unset, .unset, .unset, .unset, .unset] [(.int p5), (.int p4), (.int (0 : Int32))])) _
        refine XS.iconst X0.here hx rfl (hb hby at_18) ?_
        show Steps p.tables e below (s₁.setTop (mkF m 19 #[.val (.int p1), .val (.int p2), .val (.int p3), .val (.int p4), .val (.int p5), .unset, .unset, .unset, .unset, .unset] [(.int (0 : Int32)), (.int p5), (.int p4), (.int (0 : Int32))])) _
        simpa only [v0_19_0, if_pos hc11_1] using k
      · refine XS.ifNo X0.here hx rfl (hb hby at_11) rfl ((if0 _ _).trans (feq hc11_1).1) ?_
        show Steps p.tables e below (s₁.setTop (mkF m 14 #[.val (.int p1), .val (.int p2), .val (.int p3), .val (.int p4), .val (.int p5), .unset, .unset, .unset, .unset, .unset] [(.int p5), (.int p4), (.int (0 : Int32))])) _
        refine XS.iconst X0.here hx rfl (hb hby at_14) ?_
        show Steps p.tables e below (s₁.setTop (mkF m 15 #[.val (.int p1), .val (.int p2), .val (.int p3), .val (.int p4), .val (.int p5), .unset, .unset, .unset, .unset, .unset] [(.int (1 : Int32)), (.int p5), (.int p4), (.int (0 : Int32))])) _
        refine XS.goto X0.here hx rfl (pc0 := 15) (pc' := 19) rfl (hb hby at_15) (by decide) (by decide) ?_
        show Steps p.tables e below (s₁.setTop (mkF m 19 #[.val (.int p1), .val (.int p2), .val (.int p3), .val (.int p4), .val (.int p5), .unset, .unset, .unset, .unset, .unset] [(.int (1 : Int32)), (.int p5), (.int p4), (.int (0 : Int32))])) _
        simpa only [v0_19_0, if_neg hc11_1] using k
    show Goes p e below (s₁.setTop (mkF m 19 #[.val (.int p1), .val (.int p2), .val (.int p3), .val (.int p4), .val (.int p5), .unset, .unset, .unset, .unset, .unset] [(.int (v0_19_0 p2)), (.int p5), (.int p4), (.int (0 : Int32))])) _
    obtain ⟨_, _, ⟨T2, L2, k2, n2⟩, -, X2, ⟨Lc2, hQ2, l2, y2, z2⟩, st2⟩ := Jvm.LawKit.callS X0 hx (y := (⟨"cascabel/model/selector/TypeSelectorIsUniversalPinLaw", "pick", "(IIIZ)Ljava/lang/String;"⟩ : MethodName)) hown (mvT hZ (hw _ (List.mem_of_getElem? (i := 0) rfl))) (mvT hZ (hw _ (List.mem_of_getElem? (i := 1) rfl))) (mvT hZ (hw _ (List.mem_of_getElem? (i := 2) rfl))) (mvT hZ (hw _ (List.mem_of_getElem? (i := 3) rfl))) (by decide) (backOf (W := 0) (rm1_0 l Z a0 hw [] p4 p5 (v0_19_0 p2)  h0 n0 Z0 ) hZ (hw _ (List.mem_of_getElem? (i := 3) rfl)) (hw _ (List.mem_of_getElem? (i := 2) rfl)) (by decide) (by decide)) (g := (mkF m 19 #[.val (.int p1), .val (.int p2), .val (.int p3), .val (.int p4), .val (.int p5), .unset, .unset, .unset, .unset, .unset] [(.int (v0_19_0 p2)), (.int p5), (.int p4), (.int (0 : Int32))])) rfl (by rw [hml]; rfl) (argsL := [(.int (0 : Int32)), (.int p4), (.int p5), (.int (v0_19_0 p2))]) (rest := []) (lenOf pd_0_0 rfl) rfl (by show 2 * 0 + _ ≤ _; exact Nat.le_of_eq rfl) (hb hby at_19) (fun _ _ => ⟨rfl, e0, (by decide : 0 + 0 ≤ _), (by decide : 0 + 0 ≤ _)⟩)
    dsimp only [Pt.U, Pt.locs, Pt.cells, Pt.slots] at X2 l2 y2 z2 st2 hQ2
    subst l2 y2 z2
    obtain ⟨rfl, N2q, er2⟩ := hQ2
    have e2 : T2.heap = h0 := er2
    have N2 := Fr.app N0 N2q
    refine Goes.via st2 ?_
    show Goes p e below (T2.setTop (mkF m 22 #[.val (.int p1), .val (.int p2), .val (.int p3), .val (.int p4), .val (.int p5), .unset, .unset, .unset, .unset, .unset] [.null])) _
    refine Goes.via (fun t k => XS.astore X2.here hx rfl (hb hby at_22) rfl rfl (l' := #[.val (.int p1), .val (.int p2), .val (.int p3), .val (.int p4), .val (.int p5), .val .null, .unset, .unset, .unset, .unset]) rfl k) ?_
    show Goes p e below (T2.setTop (mkF m 24 #[.val (.int p1), .val (.int p2), .val (.int p3), .val (.int p4), .val (.int p5), .val .null, .unset, .unset, .unset, .unset] [])) _
    refine Goes.via (fun t k => XS.iloadN X2.here hx rfl (hb hby at_24) rfl k) ?_
    show Goes p e below (T2.setTop (mkF m 25 #[.val (.int p1), .val (.int p2), .val (.int p3), .val (.int p4), .val (.int p5), .val .null, .unset, .unset, .unset, .unset] [(.int p3)])) _
    refine Goes.via (fun t k => XS.iconst X2.here hx rfl (hb hby at_25) k) ?_
    show Goes p e below (T2.setTop (mkF m 26 #[.val (.int p1), .val (.int p2), .val (.int p3), .val (.int p4), .val (.int p5), .val .null, .unset, .unset, .unset, .unset] [(.int (3 : Int32)), (.int p3)])) _
    refine Goes.via (fun t k => XS.iand X2.here hx rfl (hb hby at_26) rfl k) ?_
    show Goes p e below (T2.setTop (mkF m 27 #[.val (.int p1), .val (.int p2), .val (.int p3), .val (.int p4), .val (.int p5), .val .null, .unset, .unset, .unset, .unset] [(.int (p3 &&& (3 : Int32)))])) _
    rcases own_len p3 with hlB | hlB | hlB | hlB
    · rw [hlB]
      show Goes p e below (T2.setTop (mkF m 27 #[.val (.int p1), .val (.int p2), .val (.int p3), .val (.int p4), .val (.int p5), .val .null, .unset, .unset, .unset, .unset] [(.int (0 : Int32))])) _
      refine Goes.via (fun t k => XS.istore X2.here hx rfl (hb hby at_27) rfl (l' := #[.val (.int p1), .val (.int p2), .val (.int p3), .val (.int p4), .val (.int p5), .val .null, .val (.int (0 : Int32)), .unset, .unset, .unset]) rfl k) ?_
      show Goes p e below (T2.setTop (mkF m 29 #[.val (.int p1), .val (.int p2), .val (.int p3), .val (.int p4), .val (.int p5), .val .null, .val (.int (0 : Int32)), .unset, .unset, .unset] [])) _
      refine Goes.via (fun t k => XS.iload X2.here hx rfl (hb hby at_29) rfl k) ?_
      show Goes p e below (T2.setTop (mkF m 31 #[.val (.int p1), .val (.int p2), .val (.int p3), .val (.int p4), .val (.int p5), .val .null, .val (.int (0 : Int32)), .unset, .unset, .unset] [(.int (0 : Int32))])) _
      refine Goes.via (fun t k => XS.iloadN X2.here hx rfl (hb hby at_31) rfl k) ?_
      show Goes p e below (T2.setTop (mkF m 32 #[.val (.int p1), .val (.int p2), .val (.int p3), .val (.int p4), .val (.int p5), .val .null, .val (.int (0 : Int32)), .unset, .unset, .unset] [(.int p4), (.int (0 : Int32))])) _
      refine Goes.via (fun t k => XS.iload X2.here hx rfl (hb hby at_32) rfl k) ?_
      show Goes p e below (T2.setTop (mkF m 34 #[.val (.int p1), .val (.int p2), .val (.int p3), .val (.int p4), .val (.int p5), .val .null, .val (.int (0 : Int32)), .unset, .unset, .unset] [(.int p5), (.int p4), (.int (0 : Int32))])) _
      refine Goes.via (fun t k => XS.iloadN X2.here hx rfl (hb hby at_34) rfl k) ?_
      show Goes p e below (T2.setTop (mkF m 35 #[.val (.int p1), .val (.int p2), .val (.int p3), .val (.int p4), .val (.int p5), .val .null, .val (.int (0 : Int32)), .unset, .unset, .unset] [(.int p3), (.int p5), (.int p4), (.int (0 : Int32))])) _
      refine Goes.via (fun t k => XS.iconst X2.here hx rfl (hb hby at_35) k) ?_
      show Goes p e below (T2.setTop (mkF m 36 #[.val (.int p1), .val (.int p2), .val (.int p3), .val (.int p4), .val (.int p5), .val .null, .val (.int (0 : Int32)), .unset, .unset, .unset] [(.int (2 : Int32)), (.int p3), (.int p5), (.int p4), (.int (0 : Int32))])) _
      refine Goes.via (fun t k => XS.iushr X2.here hx rfl (hb hby at_36) rfl k) ?_
      show Goes p e below (T2.setTop (mkF m 37 #[.val (.int p1), .val (.int p2), .val (.int p3), .val (.int p4), .val (.int p5), .val .null, .val (.int (0 : Int32)), .unset, .unset, .unset] [(.int ((p3.toUInt32 >>> ((2 : Int32) &&& 31).toUInt32).toInt32)), (.int p5), (.int p4), (.int (0 : Int32))])) _
      refine Goes.via (fun t k => XS.iconst X2.here hx rfl (hb hby at_37) k) ?_
      show Goes p e below (T2.setTop (mkF m 38 #[.val (.int p1), .val (.int p2), .val (.int p3), .val (.int p4), .val (.int p5), .val .null, .val (.int (0 : Int32)), .unset, .unset, .unset] [(.int (1 : Int32)), (.int ((p3.toUInt32 >>> ((2 : Int32) &&& 31).toUInt32).toInt32)), (.int p5), (.int p4), (.int (0 : Int32))])) _
      refine Goes.via (fun t k => XS.iand X2.here hx rfl (hb hby at_38) rfl k) ?_
      show Goes p e below (T2.setTop (mkF m 39 #[.val (.int p1), .val (.int p2), .val (.int p3), .val (.int p4), .val (.int p5), .val .null, .val (.int (0 : Int32)), .unset, .unset, .unset] [(.int (((p3.toUInt32 >>> ((2 : Int32) &&& 31).toUInt32).toInt32) &&& (1 : Int32))), (.int p5), (.int p4), (.int (0 : Int32))])) _
      refine Goes.via (next := T2.setTop (mkF m 47 #[.val (.int p1), .val (.int p2), .val (.int p3), .val (.int p4), .val (.int p5), .val .null, .val (.int (0 : Int32)), .unset, .unset, .unset] [(.int (v0_47_1 p3)), (.int p5), (.int p4), (.int (0 : Int32))])) (fun t k => ?_) ?_
      · by_cases hc39_3 : (((p3.toUInt32 >>> ((2 : Int32) &&& 31).toUInt32).toInt32) &&& (1 : Int32)) = (0 : Int32)
        · refine XS.ifYes X2.here hx rfl (pc0 := 39) (pc' := 46) rfl (hb hby at_39) rfl ((if0 _ _).trans (teq hc39_3).1) (by decide) (by decide) ?_
          show Steps p.tables e below (T2.setTop (mkF m 46 #[.val (.int p1), .val (.int p2), .val (.int p3), .val (.int p4), .val (.int p5), .val .null, .val (.int (0 : Int32)), .unset, .unset, .unset] [(.int p5), (.int p4), (.int (0 : Int32))])) _
          refine XS.iconst X2.here hx rfl (hb hby at_46) ?_
          show Steps p.tables e below (T2.setTop (mkF m 47 #[.val (.int p1), .val (.int p2), .val (.int p3), .val (.int p4), .val (.int p5), .val .null, .val (.int (0 : Int32)), .unset, .unset, .unset] [(.int (0 : Int32)), (.int p5), (.int p4), (.int (0 : Int32))])) _
          simpa only [v0_47_1, if_pos hc39_3] using k
        · refine XS.ifNo X2.here hx rfl (hb hby at_39) rfl ((if0 _ _).trans (feq hc39_3).1) ?_
          show Steps p.tables e below (T2.setTop (mkF m 42 #[.val (.int p1), .val (.int p2), .val (.int p3), .val (.int p4), .val (.int p5), .val .null, .val (.int (0 : Int32)), .unset, .unset, .unset] [(.int p5), (.int p4), (.int (0 : Int32))])) _
          refine XS.iconst X2.here hx rfl (hb hby at_42) ?_
          show Steps p.tables e below (T2.setTop (mkF m 43 #[.val (.int p1), .val (.int p2), .val (.int p3), .val (.int p4), .val (.int p5), .val .null, .val (.int (0 : Int32)), .unset, .unset, .unset] [(.int (1 : Int32)), (.int p5), (.int p4), (.int (0 : Int32))])) _
          refine XS.goto X2.here hx rfl (pc0 := 43) (pc' := 47) rfl (hb hby at_43) (by decide) (by decide) ?_
          show Steps p.tables e below (T2.setTop (mkF m 47 #[.val (.int p1), .val (.int p2), .val (.int p3), .val (.int p4), .val (.int p5), .val .null, .val (.int (0 : Int32)), .unset, .unset, .unset] [(.int (1 : Int32)), (.int p5), (.int p4), (.int (0 : Int32))])) _
          simpa only [v0_47_1, if_neg hc39_3] using k
      show Goes p e below (T2.setTop (mkF m 47 #[.val (.int p1), .val (.int p2), .val (.int p3), .val (.int p4), .val (.int p5), .val .null, .val (.int (0 : Int32)), .unset, .unset, .unset] [(.int (v0_47_1 p3)), (.int p5), (.int p4), (.int (0 : Int32))])) _
      obtain ⟨Lw4, X4w, N4w⟩ := ownPack X2 N2
      obtain ⟨_, _, ⟨T5, L5, k5, n5⟩, -, X5, ⟨Lc5, hQ5, l5, y5, z5⟩, st5⟩ := Jvm.LawKit.callS X4w hx (y := (⟨"cascabel/model/selector/TypeSelectorIsUniversalPinLaw", "pick", "(IIIZ)Ljava/lang/String;"⟩ : MethodName)) hown (mvT hZ (hw _ (List.mem_of_getElem? (i := 0) rfl))) (mvT hZ (hw _ (List.mem_of_getElem? (i := 1) rfl))) (mvT hZ (hw _ (List.mem_of_getElem? (i := 2) rfl))) (mvT hZ (hw _ (List.mem_of_getElem? (i := 3) rfl))) (by decide) (backOf (W := 0) (rm1_0 l Z a0 hw [] p4 p5 (v0_47_1 p3)  h0 n0 Z0 ) hZ (hw _ (List.mem_of_getElem? (i := 3) rfl)) (hw _ (List.mem_of_getElem? (i := 2) rfl)) (by decide) (by decide)) (g := (mkF m 47 #[.val (.int p1), .val (.int p2), .val (.int p3), .val (.int p4), .val (.int p5), .val .null, .val (.int (0 : Int32)), .unset, .unset, .unset] [(.int (v0_47_1 p3)), (.int p5), (.int p4), (.int (0 : Int32))])) rfl (by rw [hml]; rfl) (argsL := [(.int (0 : Int32)), (.int p4), (.int p5), (.int (v0_47_1 p3))]) (rest := []) (lenOf pd_0_0 rfl) rfl (by show 2 * 0 + _ ≤ _; exact Nat.le_of_eq rfl) (hb hby at_47) (fun _ _ => ⟨rfl, e2, (by decide : 0 + 0 ≤ _), (by decide : 0 + 0 ≤ _)⟩)
      dsimp only [Pt.U, Pt.locs, Pt.cells, Pt.slots] at X5 l5 y5 z5 st5 hQ5
      subst l5 y5 z5
      obtain ⟨rfl, N5q, er5⟩ := hQ5
      have e5 : T5.heap = h0 := er5
      have N5 := Fr.app N4w N5q
      refine Goes.via st5 ?_
      show Goes p e below (T5.setTop (mkF m 50 #[.val (.int p1), .val (.int p2), .val (.int p3), .val (.int p4), .val (.int p5), .val .null, .val (.int (0 : Int32)), .unset, .unset, .unset] [.null])) _
      refine Goes.via (fun t k => XS.astore X5.here hx rfl (hb hby at_50) rfl rfl (l' := #[.val (.int p1), .val (.int p2), .val (.int p3), .val (.int p4), .val (.int p5), .val .null, .val (.int (0 : Int32)), .val .null, .unset, .unset]) rfl k) ?_
      show Goes p e below (T5.setTop (mkF m 52 #[.val (.int p1), .val (.int p2), .val (.int p3), .val (.int p4), .val (.int p5), .val .null, .val (.int (0 : Int32)), .val .null, .unset, .unset] [])) _
      obtain ⟨T6, h6, X6, e6, E6, A6, D6, -, st6⟩ := newO X5 hx hZ hown (hw _ (List.mem_of_getElem? (i := 38) rfl)) (hw _ (List.mem_of_getElem? (i := 39) rfl)) (hw _ (List.mem_of_getElem? (i := 40) rfl)) e5 (g := (mkF m 52 #[.val (.int p1), .val (.int p2), .val (.int p3), .val (.int p4), .val (.int p5), .val .null, .val (.int (0 : Int32)), .val .null, .unset, .unset] [])) rfl (hb hby at_52) (by decide) (by decide)
      obtain ⟨b6, g6⟩ : ∃ z, z = h0.size := ⟨_, rfl⟩
      rw [← g6] at A6 D6 st6
      have ge_b6 : n0 ≤ b6 := Nat.le_trans Z0 (Nat.le_of_eq g6.symm)
      have sz_b6 : h0.size ≤ b6 := Nat.le_trans (Keep.refl h0 []).1 (Nat.le_of_eq g6.symm)
      have K6 : Keep h0 h6 [] := (Keep.refl h0 []).ext E6
      have Z6 : n0 ≤ h6.size := Nat.le_trans Z0 E6.1
      have O6 := O0.ext E6
      have hk := Nat.le_trans hk E6.1
      have F6_offset : Fld Z h6 b6 "cascabel/model/selector/TypeSelector" "offset" "I" (.int (0 : Int32)) := D6 (Or.inr (hw _ (List.mem_of_getElem? (i := 51) rfl))) (ty := .int) (by decide)
      have F6_namespace : Fld Z h6 b6 "cascabel/model/selector/TypeSelector" "namespace" "Ljava/lang/String;" .null := D6 (Or.inr (hw _ (List.mem_of_getElem? (i := 53) rfl))) (ty := (.object "java/lang/String")) (by decide)
      have F6_name : Fld Z h6 b6 "cascabel/model/selector/TypeSelector" "name" "Ljava/lang/String;" .null := D6 (Or.inr (hw _ (List.mem_of_getElem? (i := 55) rfl))) (ty := (.object "java/lang/String")) (by decide)
      refine Goes.via st6 ?_
      show Goes p e below (T6.setTop (mkF m 55 #[.val (.int p1), .val (.int p2), .val (.int p3), .val (.int p4), .val (.int p5), .val .null, .val (.int (0 : Int32)), .val .null, .unset, .unset] [(.ref b6)])) _
      refine Goes.via (fun t k => XS.dup X6.here hx rfl (hb hby at_55) rfl rfl k) ?_
      show Goes p e below (T6.setTop (mkF m 56 #[.val (.int p1), .val (.int p2), .val (.int p3), .val (.int p4), .val (.int p5), .val .null, .val (.int (0 : Int32)), .val .null, .unset, .unset] [(.ref b6), (.ref b6)])) _
      refine Goes.via (fun t k => XS.iloadN X6.here hx rfl (hb hby at_56) rfl k) ?_
      show Goes p e below (T6.setTop (mkF m 57 #[.val (.int p1), .val (.int p2), .val (.int p3), .val (.int p4), .val (.int p5), .val .null, .val (.int (0 : Int32)), .val .null, .unset, .unset] [(.int p1), (.ref b6), (.ref b6)])) _
      refine Goes.via (fun t k => XS.aload X6.here hx rfl (hb hby at_57) rfl rfl k) ?_
      show Goes p e below (T6.setTop (mkF m 59 #[.val (.int p1), .val (.int p2), .val (.int p3), .val (.int p4), .val (.int p5), .val .null, .val (.int (0 : Int32)), .val .null, .unset, .unset] [.null, (.int p1), (.ref b6), (.ref b6)])) _
      refine Goes.via (fun t k => XS.aload X6.here hx rfl (hb hby at_59) rfl rfl k) ?_
      show Goes p e below (T6.setTop (mkF m 61 #[.val (.int p1), .val (.int p2), .val (.int p3), .val (.int p4), .val (.int p5), .val .null, .val (.int (0 : Int32)), .val .null, .unset, .unset] [.null, .null, (.int p1), (.ref b6), (.ref b6)])) _
      obtain ⟨Lw7, X7w, N7w⟩ := ownPack X6 N5
      obtain ⟨_, _, ⟨T8, L8, k8, n8⟩, -, X8, ⟨Lc8, hQ8, l8, y8, z8⟩, st8⟩ := X7w.specialBack hx (y := (⟨"cascabel/model/selector/TypeSelector", "<init>", "(ILjava/lang/String;Ljava/lang/String;)V"⟩ : MethodName)) rfl hown (mvT hZ (hw _ (List.mem_of_getElem? (i := 41) rfl))) (mvT hZ (hw _ (List.mem_of_getElem? (i := 42) rfl))) (mvT hZ (hw _ (List.mem_of_getElem? (i := 43) rfl))) (by decide) (backOf (W := 1) (rm8_00 l Z a0 hw [] b6 p1  h6 n0 Z6 A6 F6_offset F6_namespace F6_name ge_b6) hZ (hw _ (List.mem_of_getElem? (i := 43) rfl)) (hw _ (List.mem_of_getElem? (i := 40) rfl)) (by decide) (by decide)) (g := (mkF m 61 #[.val (.int p1), .val (.int p2), .val (.int p3), .val (.int p4), .val (.int p5), .val .null, .val (.int (0 : Int32)), .val .null, .unset, .unset] [.null, .null, (.int p1), (.ref b6), (.ref b6)])) rfl (by rw [hml]; rfl) (Steps.refl _) (a := b6) (argsL := [(.int p1), .null, .null]) (rest := [(.ref b6)]) (lenOf pd_0_1 rfl) rfl (by show 2 * 0 + _ ≤ _; exact Nat.le_of_eq rfl) (hb hby at_61) (fun _ _ => ⟨rfl, e6, (by decide : 1 + 0 ≤ _), (by decide : 3 + 0 ≤ _)⟩)
      dsimp only [Pt.U, Pt.locs, Pt.cells, Pt.slots] at X8 l8 y8 z8 st8 hQ8
      subst l8 y8 z8
      obtain ⟨rfl, N8q, Kc8, Ec8, Fn8⟩ := hQ8
      have F8_38 := A6.keep Kc8
      have K8 : Keep h0 T8.heap [] := K6.trans Kc8 (fun x hx => by cases List.mem_singleton.mp hx; exact Or.inr sz_b6)
      have Z8 : n0 ≤ T8.heap.size := Nat.le_trans Z6 Kc8.1
      have O8 := O6.keep Kc8 (fun x hx => by cases List.mem_singleton.mp hx; exact ge_b6)
      have hk := Nat.le_trans hk Kc8.1
      have N8 := Fr.app N7w N8q
      refine Goes.via (fun t k => st8.trans k) ?_
      show Goes p e below (T8.setTop (mkF m 64 #[.val (.int p1), .val (.int p2), .val (.int p3), .val (.int p4), .val (.int p5), .val .null, .val (.int (0 : Int32)), .val .null, .unset, .unset] [(.ref b6)])) _
      refine Goes.via (fun t k => XS.astore X8.here hx rfl (hb hby at_64) rfl rfl (l' := #[.val (.int p1), .val (.int p2), .val (.int p3), .val (.int p4), .val (.int p5), .val .null, .val (.int (0 : Int32)), .val .null, .val (.ref b6), .unset]) rfl k) ?_
      show Goes p e below (T8.setTop (mkF m 66 #[.val (.int p1), .val (.int p2), .val (.int p3), .val (.int p4), .val (.int p5), .val .null, .val (.int (0 : Int32)), .val .null, .val (.ref b6), .unset] [])) _
      refine Goes.via (fun t k => XS.iload X8.here hx rfl (hb hby at_66) rfl k) ?_
      show Goes p e below (T8.setTop (mkF m 68 #[.val (.int p1), .val (.int p2), .val (.int p3), .val (.int p4), .val (.int p5), .val .null, .val (.int (0 : Int32)), .val .null, .val (.ref b6), .unset] [(.int (0 : Int32))])) _
      refine Goes.via (fun t k => XS.ifNo X8.here hx rfl (hb hby at_68) rfl ((if0 _ _).trans (teq (show (0 : Int32) = (0 : Int32) from rfl)).2) k) ?_
      show Goes p e below (T8.setTop (mkF m 71 #[.val (.int p1), .val (.int p2), .val (.int p3), .val (.int p4), .val (.int p5), .val .null, .val (.int (0 : Int32)), .val .null, .val (.ref b6), .unset] [])) _
      refine Goes.via (fun t k => XS.iconst X8.here hx rfl (hb hby at_71) k) ?_
      show Goes p e below (T8.setTop (mkF m 72 #[.val (.int p1), .val (.int p2), .val (.int p3), .val (.int p4), .val (.int p5), .val .null, .val (.int (0 : Int32)), .val .null, .val (.ref b6), .unset] [(.int (1 : Int32))])) _
      refine Goes.via (fun t k => XS.goto X8.here hx rfl (pc0 := 72) (pc' := 76) rfl (hb hby at_72) (by decide) (by decide) k) ?_
      show Goes p e below (T8.setTop (mkF m 76 #[.val (.int p1), .val (.int p2), .val (.int p3), .val (.int p4), .val (.int p5), .val .null, .val (.int (0 : Int32)), .val .null, .val (.ref b6), .unset] [(.int (1 : Int32))])) _
      refine Goes.via (fun t k => XS.istore X8.here hx rfl (hb hby at_76) rfl (l' := #[.val (.int p1), .val (.int p2), .val (.int p3), .val (.int p4), .val (.int p5), .val .null, .val (.int (0 : Int32)), .val .null, .val (.ref b6), .val (.int (1 : Int32))]) rfl k) ?_
      show Goes p e below (T8.setTop (mkF m 78 #[.val (.int p1), .val (.int p2), .val (.int p3), .val (.int p4), .val (.int p5), .val .null, .val (.int (0 : Int32)), .val .null, .val (.ref b6), .val (.int (1 : Int32))] [])) _
      refine Goes.via (fun t k => XS.aload X8.here hx rfl (hb hby at_78) rfl rfl k) ?_
      show Goes p e below (T8.setTop (mkF m 80 #[.val (.int p1), .val (.int p2), .val (.int p3), .val (.int p4), .val (.int p5), .val .null, .val (.int (0 : Int32)), .val .null, .val (.ref b6), .val (.int (1 : Int32))] [(.ref b6)])) _
      obtain ⟨Lw9, X9w, N9w⟩ := ownPack X8 N8
      obtain ⟨cq10, kq10, q10a, q10b, q10c⟩ := isOf hZ rfl F8_38
      obtain ⟨_, _, ⟨T10, L10, k10, n10⟩, -, X10, ⟨Lc10, hQ10, l10, y10, z10⟩, st10⟩ := X9w.virtualBack hx (y := (⟨"cascabel/model/selector/TypeSelector", "isUniversal", "()Z"⟩ : MethodName)) (z := (⟨"cascabel/model/selector/TypeSelector", "isUniversal", "()Z"⟩ : MethodName)) hown (mvT hZ (hw _ (List.mem_of_getElem? (i := 56) rfl))) (mvT hZ (hw _ (List.mem_of_getElem? (i := 57) rfl))) (notFace_of_selects (args := #[]) (mvT hZ (hw _ (List.mem_of_getElem? (i := 59) rfl)))) (mvT hZ (hw _ (List.mem_of_getElem? (i := 59) rfl))) (mvT hZ (hw _ (List.mem_of_getElem? (i := 58) rfl))) (by decide) (backOf (W := 0) (rm10_0 l Z a0 hw [] b6  T8.heap n0 Z8 Fn8) hZ (hw _ (List.mem_of_getElem? (i := 60) rfl)) (hw _ (List.mem_of_getElem? (i := 40) rfl)) (by decide) (by decide)) q10a q10c (g := (mkF m 80 #[.val (.int p1), .val (.int p2), .val (.int p3), .val (.int p4), .val (.int p5), .val .null, .val (.int (0 : Int32)), .val .null, .val (.ref b6), .val (.int (1 : Int32))] [(.ref b6)])) rfl (by rw [hml]; rfl) (Steps.refl _) (argsL := []) (rest := []) (lenOf pd_0_2 rfl) rfl (by show 2 * 0 + _ ≤ _; exact Nat.le_of_eq rfl) (hb hby at_80) (fun _ _ => ⟨rfl, rfl, (by decide : 1 + 0 ≤ _), (by decide : 3 + 0 ≤ _)⟩)
      dsimp only [Pt.U, Pt.locs, Pt.cells, Pt.slots] at X10 l10 y10 z10 st10 hQ10
      subst l10 y10 z10
      obtain ⟨rfl, N10q, er10⟩ := hQ10
      have e10 : T10.heap = T8.heap := er10
      have N10 := Fr.app N9w N10q
      refine Goes.via (fun t k => st10.trans k) ?_
      show Goes p e below (T10.setTop (mkF m 83 #[.val (.int p1), .val (.int p2), .val (.int p3), .val (.int p4), .val (.int p5), .val .null, .val (.int (0 : Int32)), .val .null, .val (.ref b6), .val (.int (1 : Int32))] [(.int (1 : Int32))])) _
      refine Goes.via (fun t k => XS.iload X10.here hx rfl (hb hby at_83) rfl k) ?_
      show Goes p e below (T10.setTop (mkF m 85 #[.val (.int p1), .val (.int p2), .val (.int p3), .val (.int p4), .val (.int p5), .val .null, .val (.int (0 : Int32)), .val .null, .val (.ref b6), .val (.int (1 : Int32))] [(.int (1 : Int32)), (.int (1 : Int32))])) _
      refine Goes.via (fun t k => XS.icmpNo X10.here hx rfl (hb hby at_85) rfl (teq (show (1 : Int32) = (1 : Int32) from rfl)).2 k) ?_
      show Goes p e below (T10.setTop (mkF m 88 #[.val (.int p1), .val (.int p2), .val (.int p3), .val (.int p4), .val (.int p5), .val .null, .val (.int (0 : Int32)), .val .null, .val (.ref b6), .val (.int (1 : Int32))] [])) _
      refine Goes.via (fun t k => XS.iconst X10.here hx rfl (hb hby at_88) k) ?_
      show Goes p e below (T10.setTop (mkF m 89 #[.val (.int p1), .val (.int p2), .val (.int p3), .val (.int p4), .val (.int p5), .val .null, .val (.int (0 : Int32)), .val .null, .val (.ref b6), .val (.int (1 : Int32))] [(.int (1 : Int32))])) _
      refine Goes.via (fun t k => XS.goto X10.here hx rfl (pc0 := 89) (pc' := 93) rfl (hb hby at_89) (by decide) (by decide) k) ?_
      show Goes p e below (T10.setTop (mkF m 93 #[.val (.int p1), .val (.int p2), .val (.int p3), .val (.int p4), .val (.int p5), .val .null, .val (.int (0 : Int32)), .val .null, .val (.ref b6), .val (.int (1 : Int32))] [(.int (1 : Int32))])) _
      obtain ⟨fs, hr, hrun, hended, hRE⟩ := X10.leaveW hS (by rw [e10]; exact hk) (v := some (.int (1 : Int32))) (fun h => by rw [Bd.returns] at h; cases h)
      refine ⟨_, _, ?_, hrun, hended, _, _, rfl, ?_, hRE.1, hRE.2.1, hRE.2.2.1, hRE.2.2.2.mono (by decide) (by decide)⟩
      · exact retN X10 hx (t := .boolean) Bd.returns (by simp) (hb hby at_93) hr
      · show Q0 Z  h0 n0 _ T10.heap _ _
        rw [e10]
        exact ⟨rfl, N10⟩
    · rw [hlB]
      show Goes p e below (T2.setTop (mkF m 27 #[.val (.int p1), .val (.int p2), .val (.int p3), .val (.int p4), .val (.int p5), .val .null, .unset, .unset, .unset, .unset] [(.int (1 : Int32))])) _
      refine Goes.via (fun t k => XS.istore X2.here hx rfl (hb hby at_27) rfl (l' := #[.val (.int p1), .val (.int p2), .val (.int p3), .val (.int p4), .val (.int p5), .val .null, .val (.int (1 : Int32)), .unset, .unset, .unset]) rfl k) ?_
      show Goes p e below (T2.setTop (mkF m 29 #[.val (.int p1), .val (.int p2), .val (.int p3), .val (.int p4), .val (.int p5), .val .null, .val (.int (1 : Int32)), .unset, .unset, .unset] [])) _
      refine Goes.via (fun t k => XS.iload X2.here hx rfl (hb hby at_29) rfl k) ?_
      show Goes p e below (T2.setTop (mkF m 31 #[.val (.int p1), .val (.int p2), .val (.int p3), .val (.int p4), .val (.int p5), .val .null, .val (.int (1 : Int32)), .unset, .unset, .unset] [(.int (1 : Int32))])) _
      refine Goes.via (fun t k => XS.iloadN X2.here hx rfl (hb hby at_31) rfl k) ?_
      show Goes p e below (T2.setTop (mkF m 32 #[.val (.int p1), .val (.int p2), .val (.int p3), .val (.int p4), .val (.int p5), .val .null, .val (.int (1 : Int32)), .unset, .unset, .unset] [(.int p4), (.int (1 : Int32))])) _
      refine Goes.via (fun t k => XS.iload X2.here hx rfl (hb hby at_32) rfl k) ?_
      show Goes p e below (T2.setTop (mkF m 34 #[.val (.int p1), .val (.int p2), .val (.int p3), .val (.int p4), .val (.int p5), .val .null, .val (.int (1 : Int32)), .unset, .unset, .unset] [(.int p5), (.int p4), (.int (1 : Int32))])) _
      refine Goes.via (fun t k => XS.iloadN X2.here hx rfl (hb hby at_34) rfl k) ?_
      show Goes p e below (T2.setTop (mkF m 35 #[.val (.int p1), .val (.int p2), .val (.int p3), .val (.int p4), .val (.int p5), .val .null, .val (.int (1 : Int32)), .unset, .unset, .unset] [(.int p3), (.int p5), (.int p4), (.int (1 : Int32))])) _
      refine Goes.via (fun t k => XS.iconst X2.here hx rfl (hb hby at_35) k) ?_
      show Goes p e below (T2.setTop (mkF m 36 #[.val (.int p1), .val (.int p2), .val (.int p3), .val (.int p4), .val (.int p5), .val .null, .val (.int (1 : Int32)), .unset, .unset, .unset] [(.int (2 : Int32)), (.int p3), (.int p5), (.int p4), (.int (1 : Int32))])) _
      refine Goes.via (fun t k => XS.iushr X2.here hx rfl (hb hby at_36) rfl k) ?_
      show Goes p e below (T2.setTop (mkF m 37 #[.val (.int p1), .val (.int p2), .val (.int p3), .val (.int p4), .val (.int p5), .val .null, .val (.int (1 : Int32)), .unset, .unset, .unset] [(.int ((p3.toUInt32 >>> ((2 : Int32) &&& 31).toUInt32).toInt32)), (.int p5), (.int p4), (.int (1 : Int32))])) _
      refine Goes.via (fun t k => XS.iconst X2.here hx rfl (hb hby at_37) k) ?_
      show Goes p e below (T2.setTop (mkF m 38 #[.val (.int p1), .val (.int p2), .val (.int p3), .val (.int p4), .val (.int p5), .val .null, .val (.int (1 : Int32)), .unset, .unset, .unset] [(.int (1 : Int32)), (.int ((p3.toUInt32 >>> ((2 : Int32) &&& 31).toUInt32).toInt32)), (.int p5), (.int p4), (.int (1 : Int32))])) _
      refine Goes.via (fun t k => XS.iand X2.here hx rfl (hb hby at_38) rfl k) ?_
      show Goes p e below (T2.setTop (mkF m 39 #[.val (.int p1), .val (.int p2), .val (.int p3), .val (.int p4), .val (.int p5), .val .null, .val (.int (1 : Int32)), .unset, .unset, .unset] [(.int (((p3.toUInt32 >>> ((2 : Int32) &&& 31).toUInt32).toInt32) &&& (1 : Int32))), (.int p5), (.int p4), (.int (1 : Int32))])) _
      refine Goes.via (next := T2.setTop (mkF m 47 #[.val (.int p1), .val (.int p2), .val (.int p3), .val (.int p4), .val (.int p5), .val .null, .val (.int (1 : Int32)), .unset, .unset, .unset] [(.int (v0_47_1 p3)), (.int p5), (.int p4), (.int (1 : Int32))])) (fun t k => ?_) ?_
      · by_cases hc39_11 : (((p3.toUInt32 >>> ((2 : Int32) &&& 31).toUInt32).toInt32) &&& (1 : Int32)) = (0 : Int32)
        · refine XS.ifYes X2.here hx rfl (pc0 := 39) (pc' := 46) rfl (hb hby at_39) rfl ((if0 _ _).trans (teq hc39_11).1) (by decide) (by decide) ?_
          show Steps p.tables e below (T2.setTop (mkF m 46 #[.val (.int p1), .val (.int p2), .val (.int p3), .val (.int p4), .val (.int p5), .val .null, .val (.int (1 : Int32)), .unset, .unset, .unset] [(.int p5), (.int p4), (.int (1 : Int32))])) _
          refine XS.iconst X2.here hx rfl (hb hby at_46) ?_
          show Steps p.tables e below (T2.setTop (mkF m 47 #[.val (.int p1), .val (.int p2), .val (.int p3), .val (.int p4), .val (.int p5), .val .null, .val (.int (1 : Int32)), .unset, .unset, .unset] [(.int (0 : Int32)), (.int p5), (.int p4), (.int (1 : Int32))])) _
          simpa only [v0_47_1, if_pos hc39_11] using k
        · refine XS.ifNo X2.here hx rfl (hb hby at_39) rfl ((if0 _ _).trans (feq hc39_11).1) ?_
          show Steps p.tables e below (T2.setTop (mkF m 42 #[.val (.int p1), .val (.int p2), .val (.int p3), .val (.int p4), .val (.int p5), .val .null, .val (.int (1 : Int32)), .unset, .unset, .unset] [(.int p5), (.int p4), (.int (1 : Int32))])) _
          refine XS.iconst X2.here hx rfl (hb hby at_42) ?_
          show Steps p.tables e below (T2.setTop (mkF m 43 #[.val (.int p1), .val (.int p2), .val (.int p3), .val (.int p4), .val (.int p5), .val .null, .val (.int (1 : Int32)), .unset, .unset, .unset] [(.int (1 : Int32)), (.int p5), (.int p4), (.int (1 : Int32))])) _
          refine XS.goto X2.here hx rfl (pc0 := 43) (pc' := 47) rfl (hb hby at_43) (by decide) (by decide) ?_
          show Steps p.tables e below (T2.setTop (mkF m 47 #[.val (.int p1), .val (.int p2), .val (.int p3), .val (.int p4), .val (.int p5), .val .null, .val (.int (1 : Int32)), .unset, .unset, .unset] [(.int (1 : Int32)), (.int p5), (.int p4), (.int (1 : Int32))])) _
          simpa only [v0_47_1, if_neg hc39_11] using k
      show Goes p e below (T2.setTop (mkF m 47 #[.val (.int p1), .val (.int p2), .val (.int p3), .val (.int p4), .val (.int p5), .val .null, .val (.int (1 : Int32)), .unset, .unset, .unset] [(.int (v0_47_1 p3)), (.int p5), (.int p4), (.int (1 : Int32))])) _
      obtain ⟨Lw12, X12w, N12w⟩ := ownPack X2 N2
      obtain ⟨_, _, ⟨T13, L13, k13, n13⟩, -, X13, S13, sg13, ⟨Lc13, hQ13, l13, y13, z13⟩, st13⟩ := callSS X12w hx (y := (⟨"cascabel/model/selector/TypeSelectorIsUniversalPinLaw", "pick", "(IIIZ)Ljava/lang/String;"⟩ : MethodName)) hown (mvT hZ (hw _ (List.mem_of_getElem? (i := 0) rfl))) (mvT hZ (hw _ (List.mem_of_getElem? (i := 1) rfl))) (mvT hZ (hw _ (List.mem_of_getElem? (i := 2) rfl))) (mvT hZ (hw _ (List.mem_of_getElem? (i := 3) rfl))) (by decide) (ownBackS (W := 0) (I := fun vm => True) (rm1_1 l Z a0 hw [] p4 p5 (v0_47_1 p3) w0 h0 n0 Z0 O0 St) hZ (fun _ _ => trivial) (hw _ (List.mem_of_getElem? (i := 3) rfl)) (hw _ (List.mem_of_getElem? (i := 2) rfl)) (by decide) (by decide)) (g := (mkF m 47 #[.val (.int p1), .val (.int p2), .val (.int p3), .val (.int p4), .val (.int p5), .val .null, .val (.int (1 : Int32)), .unset, .unset, .unset] [(.int (v0_47_1 p3)), (.int p5), (.int p4), (.int (1 : Int32))])) rfl (by rw [hml]; rfl) (argsL := [(.int (1 : Int32)), (.int p4), (.int p5), (.int (v0_47_1 p3))]) (rest := []) (lenOf pd_0_0 rfl) rfl (by show 2 * 0 + _ ≤ _; exact Nat.le_of_eq rfl) (hb hby at_47) (fun _ _ => ⟨rfl, e2, (by decide : 0 + 2 ≤ _), (by decide : 0 + 4 ≤ _)⟩)
      dsimp only [Pt.U, Pt.locs, Pt.cells, Pt.slots] at X13 l13 y13 z13 st13 hQ13 S13 sg13
      subst l13 y13 z13
      obtain ⟨X13f, hS13, hZ13, hown13⟩ := rebS hS hk X13 S13 (by rw [← e2]; exact sg13) hZ hown
      have X13 := X13f
      have hS := hS13
      have hZ := hZ13
      have hown := hown13
      have hk : T13.heap.size ≤ T13.heap.size := Nat.le_refl _
      obtain ⟨r13, rfl, N13q, Kc13⟩ := hQ13
      have K13 : Keep h0 T13.heap [] := (Keep.refl h0 []).trans Kc13 (fun x hx => nomatch hx)
      have Z13 : n0 ≤ T13.heap.size := Nat.le_trans Z0 Kc13.1
      have O13 := O0.keep Kc13 (fun x hx => nomatch hx)
      have N13 := Fr.app N12w N13q
      refine Goes.via (fun t k => st13.trans k) ?_
      show Goes p e below (T13.setTop (mkF m 50 #[.val (.int p1), .val (.int p2), .val (.int p3), .val (.int p4), .val (.int p5), .val .null, .val (.int (1 : Int32)), .unset, .unset, .unset] [(.ref r13)])) _
      refine Goes.via (fun t k => XS.astore X13.here hx rfl (hb hby at_50) rfl rfl (l' := #[.val (.int p1), .val (.int p2), .val (.int p3), .val (.int p4), .val (.int p5), .val .null, .val (.int (1 : Int32)), .val (.ref r13), .unset, .unset]) rfl k) ?_
      show Goes p e below (T13.setTop (mkF m 52 #[.val (.int p1), .val (.int p2), .val (.int p3), .val (.int p4), .val (.int p5), .val .null, .val (.int (1 : Int32)), .val (.ref r13), .unset, .unset] [])) _
      obtain ⟨T14, h14, X14, e14, E14, A14, D14, -, st14⟩ := newO X13 hx hZ hown (hw _ (List.mem_of_getElem? (i := 38) rfl)) (hw _ (List.mem_of_getElem? (i := 39) rfl)) (hw _ (List.mem_of_getElem? (i := 40) rfl)) rfl (g := (mkF m 52 #[.val (.int p1), .val (.int p2), .val (.int p3), .val (.int p4), .val (.int p5), .val .null, .val (.int (1 : Int32)), .val (.ref r13), .unset, .unset] [])) rfl (hb hby at_52) (by decide) (by decide)
      obtain ⟨b14, g14⟩ : ∃ z, z = T13.heap.size := ⟨_, rfl⟩
      rw [← g14] at A14 D14 st14
      have ge_b14 : n0 ≤ b14 := Nat.le_trans Z13 (Nat.le_of_eq g14.symm)
      have sz_b14 : h0.size ≤ b14 := Nat.le_trans K13.1 (Nat.le_of_eq g14.symm)
      have K14 : Keep h0 h14 [] := K13.ext E14
      have Z14 : n0 ≤ h14.size := Nat.le_trans Z13 E14.1
      have O14 := O13.ext E14
      have hk := Nat.le_trans hk E14.1
      have F14_offset : Fld Z h14 b14 "cascabel/model/selector/TypeSelector" "offset" "I" (.int (0 : Int32)) := D14 (Or.inr (hw _ (List.mem_of_getElem? (i := 51) rfl))) (ty := .int) (by decide)
      have F14_namespace : Fld Z h14 b14 "cascabel/model/selector/TypeSelector" "namespace" "Ljava/lang/String;" .null := D14 (Or.inr (hw _ (List.mem_of_getElem? (i := 53) rfl))) (ty := (.object "java/lang/String")) (by decide)
      have F14_name : Fld Z h14 b14 "cascabel/model/selector/TypeSelector" "name" "Ljava/lang/String;" .null := D14 (Or.inr (hw _ (List.mem_of_getElem? (i := 55) rfl))) (ty := (.object "java/lang/String")) (by decide)
      refine Goes.via st14 ?_
      show Goes p e below (T14.setTop (mkF m 55 #[.val (.int p1), .val (.int p2), .val (.int p3), .val (.int p4), .val (.int p5), .val .null, .val (.int (1 : Int32)), .val (.ref r13), .unset, .unset] [(.ref b14)])) _
      refine Goes.via (fun t k => XS.dup X14.here hx rfl (hb hby at_55) rfl rfl k) ?_
      show Goes p e below (T14.setTop (mkF m 56 #[.val (.int p1), .val (.int p2), .val (.int p3), .val (.int p4), .val (.int p5), .val .null, .val (.int (1 : Int32)), .val (.ref r13), .unset, .unset] [(.ref b14), (.ref b14)])) _
      refine Goes.via (fun t k => XS.iloadN X14.here hx rfl (hb hby at_56) rfl k) ?_
      show Goes p e below (T14.setTop (mkF m 57 #[.val (.int p1), .val (.int p2), .val (.int p3), .val (.int p4), .val (.int p5), .val .null, .val (.int (1 : Int32)), .val (.ref r13), .unset, .unset] [(.int p1), (.ref b14), (.ref b14)])) _
      refine Goes.via (fun t k => XS.aload X14.here hx rfl (hb hby at_57) rfl rfl k) ?_
      show Goes p e below (T14.setTop (mkF m 59 #[.val (.int p1), .val (.int p2), .val (.int p3), .val (.int p4), .val (.int p5), .val .null, .val (.int (1 : Int32)), .val (.ref r13), .unset, .unset] [.null, (.int p1), (.ref b14), (.ref b14)])) _
      refine Goes.via (fun t k => XS.aload X14.here hx rfl (hb hby at_59) rfl rfl k) ?_
      show Goes p e below (T14.setTop (mkF m 61 #[.val (.int p1), .val (.int p2), .val (.int p3), .val (.int p4), .val (.int p5), .val .null, .val (.int (1 : Int32)), .val (.ref r13), .unset, .unset] [(.ref r13), .null, (.int p1), (.ref b14), (.ref b14)])) _
      obtain ⟨Lw15, X15w, N15w⟩ := ownPack X14 N13
      obtain ⟨_, _, ⟨T16, L16, k16, n16⟩, -, X16, ⟨Lc16, hQ16, l16, y16, z16⟩, st16⟩ := X15w.specialBack hx (y := (⟨"cascabel/model/selector/TypeSelector", "<init>", "(ILjava/lang/String;Ljava/lang/String;)V"⟩ : MethodName)) rfl hown (mvT hZ (hw _ (List.mem_of_getElem? (i := 41) rfl))) (mvT hZ (hw _ (List.mem_of_getElem? (i := 42) rfl))) (mvT hZ (hw _ (List.mem_of_getElem? (i := 43) rfl))) (by decide) (backOf (W := 1) (rm8_01 l Z a0 hw [] b14 p1 r13  h14 n0 Z14 A14 F14_offset F14_namespace F14_name ge_b14) hZ (hw _ (List.mem_of_getElem? (i := 43) rfl)) (hw _ (List.mem_of_getElem? (i := 40) rfl)) (by decide) (by decide)) (g := (mkF m 61 #[.val (.int p1), .val (.int p2), .val (.int p3), .val (.int p4), .val (.int p5), .val .null, .val (.int (1 : Int32)), .val (.ref r13), .unset, .unset] [(.ref r13), .null, (.int p1), (.ref b14), (.ref b14)])) rfl (by rw [hml]; rfl) (Steps.refl _) (a := b14) (argsL := [(.int p1), .null, (.ref r13)]) (rest := [(.ref b14)]) (lenOf pd_0_1 rfl) rfl (by show 2 * 0 + _ ≤ _; exact Nat.le_of_eq rfl) (hb hby at_61) (fun _ _ => ⟨rfl, e14, (by decide : 3 + 0 ≤ _), (by decide : 7 + 0 ≤ _)⟩)
      dsimp only [Pt.U, Pt.locs, Pt.cells, Pt.slots] at X16 l16 y16 z16 st16 hQ16
      subst l16 y16 z16
      obtain ⟨rfl, N16q, Kc16, Ec16, Fn16⟩ := hQ16
      have F16_46 := A14.keep Kc16
      have K16 : Keep h0 T16.heap [] := K14.trans Kc16 (fun x hx => by cases List.mem_singleton.mp hx; exact Or.inr sz_b14)
      have Z16 : n0 ≤ T16.heap.size := Nat.le_trans Z14 Kc16.1
      have O16 := O14.keep Kc16 (fun x hx => by cases List.mem_singleton.mp hx; exact ge_b14)
      have hk := Nat.le_trans hk Kc16.1
      have N16 := Fr.app N15w N16q
      refine Goes.via (fun t k => st16.trans k) ?_
      show Goes p e below (T16.setTop (mkF m 64 #[.val (.int p1), .val (.int p2), .val (.int p3), .val (.int p4), .val (.int p5), .val .null, .val (.int (1 : Int32)), .val (.ref r13), .unset, .unset] [(.ref b14)])) _
      refine Goes.via (fun t k => XS.astore X16.here hx rfl (hb hby at_64) rfl rfl (l' := #[.val (.int p1), .val (.int p2), .val (.int p3), .val (.int p4), .val (.int p5), .val .null, .val (.int (1 : Int32)), .val (.ref r13), .val (.ref b14), .unset]) rfl k) ?_
      show Goes p e below (T16.setTop (mkF m 66 #[.val (.int p1), .val (.int p2), .val (.int p3), .val (.int p4), .val (.int p5), .val .null, .val (.int (1 : Int32)), .val (.ref r13), .val (.ref b14), .unset] [])) _
      refine Goes.via (fun t k => XS.iload X16.here hx rfl (hb hby at_66) rfl k) ?_
      show Goes p e below (T16.setTop (mkF m 68 #[.val (.int p1), .val (.int p2), .val (.int p3), .val (.int p4), .val (.int p5), .val .null, .val (.int (1 : Int32)), .val (.ref r13), .val (.ref b14), .unset] [(.int (1 : Int32))])) _
      refine Goes.via (fun t k => XS.ifYes X16.here hx rfl (pc0 := 68) (pc' := 75) rfl (hb hby at_68) rfl ((if0 _ _).trans (feq (show ¬ ((1 : Int32) = (0 : Int32)) from (by decide))).2) (by decide) (by decide) k) ?_
      show Goes p e below (T16.setTop (mkF m 75 #[.val (.int p1), .val (.int p2), .val (.int p3), .val (.int p4), .val (.int p5), .val .null, .val (.int (1 : Int32)), .val (.ref r13), .val (.ref b14), .unset] [])) _
      refine Goes.via (fun t k => XS.iconst X16.here hx rfl (hb hby at_75) k) ?_
      show Goes p e below (T16.setTop (mkF m 76 #[.val (.int p1), .val (.int p2), .val (.int p3), .val (.int p4), .val (.int p5), .val .null, .val (.int (1 : Int32)), .val (.ref r13), .val (.ref b14), .unset] [(.int (0 : Int32))])) _
      refine Goes.via (fun t k => XS.istore X16.here hx rfl (hb hby at_76) rfl (l' := #[.val (.int p1), .val (.int p2), .val (.int p3), .val (.int p4), .val (.int p5), .val .null, .val (.int (1 : Int32)), .val (.ref r13), .val (.ref b14), .val (.int (0 : Int32))]) rfl k) ?_
      show Goes p e below (T16.setTop (mkF m 78 #[.val (.int p1), .val (.int p2), .val (.int p3), .val (.int p4), .val (.int p5), .val .null, .val (.int (1 : Int32)), .val (.ref r13), .val (.ref b14), .val (.int (0 : Int32))] [])) _
      refine Goes.via (fun t k => XS.aload X16.here hx rfl (hb hby at_78) rfl rfl k) ?_
      show Goes p e below (T16.setTop (mkF m 80 #[.val (.int p1), .val (.int p2), .val (.int p3), .val (.int p4), .val (.int p5), .val .null, .val (.int (1 : Int32)), .val (.ref r13), .val (.ref b14), .val (.int (0 : Int32))] [(.ref b14)])) _
      try clear Ec16; try clear Kc16; try clear N16q; try clear st16; try clear z16; try clear y16; try clear l16; try clear hQ16; try clear Lc16; try clear n16; try clear k16; try clear L16
      try clear N15w; try clear X15w; try clear Lw15; try clear F14_name; try clear F14_namespace; try clear F14_offset; try clear O14; try clear Z14; try clear K14; try clear size; try clear g14; try clear st14
      try clear D14; try clear A14; try clear E14; try clear e14; try clear X14; try clear h14; try clear T14; try clear N13; try clear O13; try clear Z13; try clear K13; try clear Kc13
      try clear N13q; try clear hown13; try clear hZ13; try clear hS13; try clear X13f; try clear st13; try clear z13; try clear y13; try clear l13; try clear hQ13; try clear Lc13; try clear sg13
      try clear S13; try clear X13; try clear n13; try clear k13; try clear L13; try clear T13; try clear N12w; try clear X12w; try clear Lw12; try clear N2; try clear e2; try clear er2
      try clear N2q; try clear st2; try clear z2; try clear y2; try clear l2; try clear hQ2; try clear Lc2; try clear X2; try clear n2; try clear k2; try clear L2; try clear T2
      obtain ⟨Lw17, X17w, N17w⟩ := ownPack X16 N16
      obtain ⟨cq18, kq18, q18a, q18b, q18c⟩ := isOf hZ rfl F16_46
      obtain ⟨_, _, ⟨T18, L18, k18, n18⟩, -, X18, ⟨Lc18, hQ18, l18, y18, z18⟩, st18⟩ := X17w.virtualBack hx (y := (⟨"cascabel/model/selector/TypeSelector", "isUniversal", "()Z"⟩ : MethodName)) (z := (⟨"cascabel/model/selector/TypeSelector", "isUniversal", "()Z"⟩ : MethodName)) hown (mvT hZ (hw _ (List.mem_of_getElem? (i := 56) rfl))) (mvT hZ (hw _ (List.mem_of_getElem? (i := 57) rfl))) (notFace_of_selects (args := #[]) (mvT hZ (hw _ (List.mem_of_getElem? (i := 59) rfl)))) (mvT hZ (hw _ (List.mem_of_getElem? (i := 59) rfl))) (mvT hZ (hw _ (List.mem_of_getElem? (i := 58) rfl))) (by decide) (backOf (W := 0) (rm10_1 l Z a0 hw [] b14 r13 T16.heap n0 Z16 Fn16) hZ (hw _ (List.mem_of_getElem? (i := 60) rfl)) (hw _ (List.mem_of_getElem? (i := 40) rfl)) (by decide) (by decide)) q18a q18c (g := (mkF m 80 #[.val (.int p1), .val (.int p2), .val (.int p3), .val (.int p4), .val (.int p5), .val .null, .val (.int (1 : Int32)), .val (.ref r13), .val (.ref b14), .val (.int (0 : Int32))] [(.ref b14)])) rfl (by rw [hml]; rfl) (Steps.refl _) (argsL := []) (rest := []) (lenOf pd_0_2 rfl) rfl (by show 2 * 0 + _ ≤ _; exact Nat.le_of_eq rfl) (hb hby at_80) (fun _ _ => ⟨rfl, rfl, (by decide : 3 + 0 ≤ _), (by decide : 7 + 0 ≤ _)⟩)
      dsimp only [Pt.U, Pt.locs, Pt.cells, Pt.slots] at X18 l18 y18 z18 st18 hQ18
      subst l18 y18 z18
      obtain ⟨rfl, N18q, er18⟩ := hQ18
      have e18 : T18.heap = T16.heap := er18
      have N18 := Fr.app N17w N18q
      refine Goes.via (fun t k => st18.trans k) ?_
      show Goes p e below (T18.setTop (mkF m 83 #[.val (.int p1), .val (.int p2), .val (.int p3), .val (.int p4), .val (.int p5), .val .null, .val (.int (1 : Int32)), .val (.ref r13), .val (.ref b14), .val (.int (0 : Int32))] [(.int (0 : Int32))])) _
      refine Goes.via (fun t k => XS.iload X18.here hx rfl (hb hby at_83) rfl k) ?_
      show Goes p e below (T18.setTop (mkF m 85 #[.val (.int p1), .val (.int p2), .val (.int p3), .val (.int p4), .val (.int p5), .val .null, .val (.int (1 : Int32)), .val (.ref r13), .val (.ref b14), .val (.int (0 : Int32))] [(.int (0 : Int32)), (.int (0 : Int32))])) _
      refine Goes.via (fun t k => XS.icmpNo X18.here hx rfl (hb hby at_85) rfl (teq (show (0 : Int32) = (0 : Int32) from rfl)).2 k) ?_
      show Goes p e below (T18.setTop (mkF m 88 #[.val (.int p1), .val (.int p2), .val (.int p3), .val (.int p4), .val (.int p5), .val .null, .val (.int (1 : Int32)), .val (.ref r13), .val (.ref b14), .val (.int (0 : Int32))] [])) _
      refine Goes.via (fun t k => XS.iconst X18.here hx rfl (hb hby at_88) k) ?_
      show Goes p e below (T18.setTop (mkF m 89 #[.val (.int p1), .val (.int p2), .val (.int p3), .val (.int p4), .val (.int p5), .val .null, .val (.int (1 : Int32)), .val (.ref r13), .val (.ref b14), .val (.int (0 : Int32))] [(.int (1 : Int32))])) _
      refine Goes.via (fun t k => XS.goto X18.here hx rfl (pc0 := 89) (pc' := 93) rfl (hb hby at_89) (by decide) (by decide) k) ?_
      show Goes p e below (T18.setTop (mkF m 93 #[.val (.int p1), .val (.int p2), .val (.int p3), .val (.int p4), .val (.int p5), .val .null, .val (.int (1 : Int32)), .val (.ref r13), .val (.ref b14), .val (.int (0 : Int32))] [(.int (1 : Int32))])) _
      obtain ⟨fs, hr, hrun, hended, hRE⟩ := X18.leaveW hS (by rw [e18]; exact hk) (v := some (.int (1 : Int32))) (fun h => by rw [Bd.returns] at h; cases h)
      refine ⟨_, _, ?_, hrun, hended, _, _, rfl, ?_, hRE.1, hRE.2.1, hRE.2.2.1, hRE.2.2.2.mono (by decide) (by decide)⟩
      · exact retN X18 hx (t := .boolean) Bd.returns (by simp) (hb hby at_93) hr
      · show Q0 Z  h0 n0 _ T18.heap _ _
        rw [e18]
        exact ⟨rfl, N18⟩
    · rw [hlB]
      show Goes p e below (T2.setTop (mkF m 27 #[.val (.int p1), .val (.int p2), .val (.int p3), .val (.int p4), .val (.int p5), .val .null, .unset, .unset, .unset, .unset] [(.int (2 : Int32))])) _
      refine Goes.via (fun t k => XS.istore X2.here hx rfl (hb hby at_27) rfl (l' := #[.val (.int p1), .val (.int p2), .val (.int p3), .val (.int p4), .val (.int p5), .val .null, .val (.int (2 : Int32)), .unset, .unset, .unset]) rfl k) ?_
      show Goes p e below (T2.setTop (mkF m 29 #[.val (.int p1), .val (.int p2), .val (.int p3), .val (.int p4), .val (.int p5), .val .null, .val (.int (2 : Int32)), .unset, .unset, .unset] [])) _
      refine Goes.via (fun t k => XS.iload X2.here hx rfl (hb hby at_29) rfl k) ?_
      show Goes p e below (T2.setTop (mkF m 31 #[.val (.int p1), .val (.int p2), .val (.int p3), .val (.int p4), .val (.int p5), .val .null, .val (.int (2 : Int32)), .unset, .unset, .unset] [(.int (2 : Int32))])) _
      refine Goes.via (fun t k => XS.iloadN X2.here hx rfl (hb hby at_31) rfl k) ?_
      show Goes p e below (T2.setTop (mkF m 32 #[.val (.int p1), .val (.int p2), .val (.int p3), .val (.int p4), .val (.int p5), .val .null, .val (.int (2 : Int32)), .unset, .unset, .unset] [(.int p4), (.int (2 : Int32))])) _
      refine Goes.via (fun t k => XS.iload X2.here hx rfl (hb hby at_32) rfl k) ?_
      show Goes p e below (T2.setTop (mkF m 34 #[.val (.int p1), .val (.int p2), .val (.int p3), .val (.int p4), .val (.int p5), .val .null, .val (.int (2 : Int32)), .unset, .unset, .unset] [(.int p5), (.int p4), (.int (2 : Int32))])) _
      refine Goes.via (fun t k => XS.iloadN X2.here hx rfl (hb hby at_34) rfl k) ?_
      show Goes p e below (T2.setTop (mkF m 35 #[.val (.int p1), .val (.int p2), .val (.int p3), .val (.int p4), .val (.int p5), .val .null, .val (.int (2 : Int32)), .unset, .unset, .unset] [(.int p3), (.int p5), (.int p4), (.int (2 : Int32))])) _
      refine Goes.via (fun t k => XS.iconst X2.here hx rfl (hb hby at_35) k) ?_
      show Goes p e below (T2.setTop (mkF m 36 #[.val (.int p1), .val (.int p2), .val (.int p3), .val (.int p4), .val (.int p5), .val .null, .val (.int (2 : Int32)), .unset, .unset, .unset] [(.int (2 : Int32)), (.int p3), (.int p5), (.int p4), (.int (2 : Int32))])) _
      refine Goes.via (fun t k => XS.iushr X2.here hx rfl (hb hby at_36) rfl k) ?_
      show Goes p e below (T2.setTop (mkF m 37 #[.val (.int p1), .val (.int p2), .val (.int p3), .val (.int p4), .val (.int p5), .val .null, .val (.int (2 : Int32)), .unset, .unset, .unset] [(.int ((p3.toUInt32 >>> ((2 : Int32) &&& 31).toUInt32).toInt32)), (.int p5), (.int p4), (.int (2 : Int32))])) _
      refine Goes.via (fun t k => XS.iconst X2.here hx rfl (hb hby at_37) k) ?_
      show Goes p e below (T2.setTop (mkF m 38 #[.val (.int p1), .val (.int p2), .val (.int p3), .val (.int p4), .val (.int p5), .val .null, .val (.int (2 : Int32)), .unset, .unset, .unset] [(.int (1 : Int32)), (.int ((p3.toUInt32 >>> ((2 : Int32) &&& 31).toUInt32).toInt32)), (.int p5), (.int p4), (.int (2 : Int32))])) _
      refine Goes.via (fun t k => XS.iand X2.here hx rfl (hb hby at_38) rfl k) ?_
      show Goes p e below (T2.setTop (mkF m 39 #[.val (.int p1), .val (.int p2), .val (.int p3), .val (.int p4), .val (.int p5), .val .null, .val (.int (2 : Int32)), .unset, .unset, .unset] [(.int (((p3.toUInt32 >>> ((2 : Int32) &&& 31).toUInt32).toInt32) &&& (1 : Int32))), (.int p5), (.int p4), (.int (2 : Int32))])) _
      refine Goes.via (next := T2.setTop (mkF m 47 #[.val (.int p1), .val (.int p2), .val (.int p3), .val (.int p4), .val (.int p5), .val .null, .val (.int (2 : Int32)), .unset, .unset, .unset] [(.int (v0_47_1 p3)), (.int p5), (.int p4), (.int (2 : Int32))])) (fun t k => ?_) ?_
      · by_cases hc39_19 : (((p3.toUInt32 >>> ((2 : Int32) &&& 31).toUInt32).toInt32) &&& (1 : Int32)) = (0 : Int32)
        · refine XS.ifYes X2.here hx rfl (pc0 := 39) (pc' := 46) rfl (hb hby at_39) rfl ((if0 _ _).trans (teq hc39_19).1) (by decide) (by decide) ?_
          show Steps p.tables e below (T2.setTop (mkF m 46 #[.val (.int p1), .val (.int p2), .val (.int p3), .val (.int p4), .val (.int p5), .val .null, .val (.int (2 : Int32)), .unset, .unset, .unset] [(.int p5), (.int p4), (.int (2 : Int32))])) _
          refine XS.iconst X2.here hx rfl (hb hby at_46) ?_
          show Steps p.tables e below (T2.setTop (mkF m 47 #[.val (.int p1), .val (.int p2), .val (.int p3), .val (.int p4), .val (.int p5), .val .null, .val (.int (2 : Int32)), .unset, .unset, .unset] [(.int (0 : Int32)), (.int p5), (.int p4), (.int (2 : Int32))])) _
          simpa only [v0_47_1, if_pos hc39_19] using k
        · refine XS.ifNo X2.here hx rfl (hb hby at_39) rfl ((if0 _ _).trans (feq hc39_19).1) ?_
          show Steps p.tables e below (T2.setTop (mkF m 42 #[.val (.int p1), .val (.int p2), .val (.int p3), .val (.int p4), .val (.int p5), .val .null, .val (.int (2 : Int32)), .unset, .unset, .unset] [(.int p5), (.int p4), (.int (2 : Int32))])) _
          refine XS.iconst X2.here hx rfl (hb hby at_42) ?_
          show Steps p.tables e below (T2.setTop (mkF m 43 #[.val (.int p1), .val (.int p2), .val (.int p3), .val (.int p4), .val (.int p5), .val .null, .val (.int (2 : Int32)), .unset, .unset, .unset] [(.int (1 : Int32)), (.int p5), (.int p4), (.int (2 : Int32))])) _
          refine XS.goto X2.here hx rfl (pc0 := 43) (pc' := 47) rfl (hb hby at_43) (by decide) (by decide) ?_
          show Steps p.tables e below (T2.setTop (mkF m 47 #[.val (.int p1), .val (.int p2), .val (.int p3), .val (.int p4), .val (.int p5), .val .null, .val (.int (2 : Int32)), .unset, .unset, .unset] [(.int (1 : Int32)), (.int p5), (.int p4), (.int (2 : Int32))])) _
          simpa only [v0_47_1, if_neg hc39_19] using k
      show Goes p e below (T2.setTop (mkF m 47 #[.val (.int p1), .val (.int p2), .val (.int p3), .val (.int p4), .val (.int p5), .val .null, .val (.int (2 : Int32)), .unset, .unset, .unset] [(.int (v0_47_1 p3)), (.int p5), (.int p4), (.int (2 : Int32))])) _
      obtain ⟨Lw20, X20w, N20w⟩ := ownPack X2 N2
      obtain ⟨_, _, ⟨T21, L21, k21, n21⟩, -, X21, S21, sg21, ⟨Lc21, hQ21, l21, y21, z21⟩, st21⟩ := callSS X20w hx (y := (⟨"cascabel/model/selector/TypeSelectorIsUniversalPinLaw", "pick", "(IIIZ)Ljava/lang/String;"⟩ : MethodName)) hown (mvT hZ (hw _ (List.mem_of_getElem? (i := 0) rfl))) (mvT hZ (hw _ (List.mem_of_getElem? (i := 1) rfl))) (mvT hZ (hw _ (List.mem_of_getElem? (i := 2) rfl))) (mvT hZ (hw _ (List.mem_of_getElem? (i := 3) rfl))) (by decide) (ownBackS (W := 0) (I := fun vm => True) (rm1_2 l Z a0 hw [] p4 p5 (v0_47_1 p3) w0 h0 n0 Z0 O0 St) hZ (fun _ _ => trivial) (hw _ (List.mem_of_getElem? (i := 3) rfl)) (hw _ (List.mem_of_getElem? (i := 2) rfl)) (by decide) (by decide)) (g := (mkF m 47 #[.val (.int p1), .val (.int p2), .val (.int p3), .val (.int p4), .val (.int p5), .val .null, .val (.int (2 : Int32)), .unset, .unset, .unset] [(.int (v0_47_1 p3)), (.int p5), (.int p4), (.int (2 : Int32))])) rfl (by rw [hml]; rfl) (argsL := [(.int (2 : Int32)), (.int p4), (.int p5), (.int (v0_47_1 p3))]) (rest := []) (lenOf pd_0_0 rfl) rfl (by show 2 * 0 + _ ≤ _; exact Nat.le_of_eq rfl) (hb hby at_47) (fun _ _ => ⟨rfl, e2, (by decide : 0 + 2 ≤ _), (by decide : 0 + 8 ≤ _)⟩)
      dsimp only [Pt.U, Pt.locs, Pt.cells, Pt.slots] at X21 l21 y21 z21 st21 hQ21 S21 sg21
      subst l21 y21 z21
      obtain ⟨X21f, hS21, hZ21, hown21⟩ := rebS hS hk X21 S21 (by rw [← e2]; exact sg21) hZ hown
      have X21 := X21f
      have hS := hS21
      have hZ := hZ21
      have hown := hown21
      have hk : T21.heap.size ≤ T21.heap.size := Nat.le_refl _
      obtain ⟨r21, rfl, N21q, Kc21⟩ := hQ21
      have K21 : Keep h0 T21.heap [] := (Keep.refl h0 []).trans Kc21 (fun x hx => nomatch hx)
      have Z21 : n0 ≤ T21.heap.size := Nat.le_trans Z0 Kc21.1
      have O21 := O0.keep Kc21 (fun x hx => nomatch hx)
      have N21 := Fr.app N20w N21q
      refine Goes.via (fun t k => st21.trans k) ?_
      show Goes p e below (T21.setTop (mkF m 50 #[.val (.int p1), .val (.int p2), .val (.int p3), .val (.int p4), .val (.int p5), .val .null, .val (.int (2 : Int32)), .unset, .unset, .unset] [(.ref r21)])) _
      refine Goes.via (fun t k => XS.astore X21.here hx rfl (hb hby at_50) rfl rfl (l' := #[.val (.int p1), .val (.int p2), .val (.int p3), .val (.int p4), .val (.int p5), .val .null, .val (.int (2 : Int32)), .val (.ref r21), .unset, .unset]) rfl k) ?_
      show Goes p e below (T21.setTop (mkF m 52 #[.val (.int p1), .val (.int p2), .val (.int p3), .val (.int p4), .val (.int p5), .val .null, .val (.int (2 : Int32)), .val (.ref r21), .unset, .unset] [])) _
      obtain ⟨T22, h22, X22, e22, E22, A22, D22, -, st22⟩ := newO X21 hx hZ hown (hw _ (List.mem_of_getElem? (i := 38) rfl)) (hw _ (List.mem_of_getElem? (i := 39) rfl)) (hw _ (List.mem_of_getElem? (i := 40) rfl)) rfl (g := (mkF m 52 #[.val (.int p1), .val (.int p2), .val (.int p3), .val (.int p4), .val (.int p5), .val .null, .val (.int (2 : Int32)), .val (.ref r21), .unset, .unset] [])) rfl (hb hby at_52) (by decide) (by decide)
      obtain ⟨b22, g22⟩ : ∃ z, z = T21.heap.size := ⟨_, rfl⟩
      rw [← g22] at A22 D22 st22
      have ge_b22 : n0 ≤ b22 := Nat.le_trans Z21 (Nat.le_of_eq g22.symm)
      have sz_b22 : h0.size ≤ b22 := Nat.le_trans K21.1 (Nat.le_of_eq g22.symm)
      have K22 : Keep h0 h22 [] := K21.ext E22
      have Z22 : n0 ≤ h22.size := Nat.le_trans Z21 E22.1
      have O22 := O21.ext E22
      have hk := Nat.le_trans hk E22.1
      have F22_offset : Fld Z h22 b22 "cascabel/model/selector/TypeSelector" "offset" "I" (.int (0 : Int32)) := D22 (Or.inr (hw _ (List.mem_of_getElem? (i := 51) rfl))) (ty := .int) (by decide)
      have F22_namespace : Fld Z h22 b22 "cascabel/model/selector/TypeSelector" "namespace" "Ljava/lang/String;" .null := D22 (Or.inr (hw _ (List.mem_of_getElem? (i := 53) rfl))) (ty := (.object "java/lang/String")) (by decide)
      have F22_name : Fld Z h22 b22 "cascabel/model/selector/TypeSelector" "name" "Ljava/lang/String;" .null := D22 (Or.inr (hw _ (List.mem_of_getElem? (i := 55) rfl))) (ty := (.object "java/lang/String")) (by decide)
      refine Goes.via st22 ?_
      show Goes p e below (T22.setTop (mkF m 55 #[.val (.int p1), .val (.int p2), .val (.int p3), .val (.int p4), .val (.int p5), .val .null, .val (.int (2 : Int32)), .val (.ref r21), .unset, .unset] [(.ref b22)])) _
      refine Goes.via (fun t k => XS.dup X22.here hx rfl (hb hby at_55) rfl rfl k) ?_
      show Goes p e below (T22.setTop (mkF m 56 #[.val (.int p1), .val (.int p2), .val (.int p3), .val (.int p4), .val (.int p5), .val .null, .val (.int (2 : Int32)), .val (.ref r21), .unset, .unset] [(.ref b22), (.ref b22)])) _
      refine Goes.via (fun t k => XS.iloadN X22.here hx rfl (hb hby at_56) rfl k) ?_
      show Goes p e below (T22.setTop (mkF m 57 #[.val (.int p1), .val (.int p2), .val (.int p3), .val (.int p4), .val (.int p5), .val .null, .val (.int (2 : Int32)), .val (.ref r21), .unset, .unset] [(.int p1), (.ref b22), (.ref b22)])) _
      refine Goes.via (fun t k => XS.aload X22.here hx rfl (hb hby at_57) rfl rfl k) ?_
      show Goes p e below (T22.setTop (mkF m 59 #[.val (.int p1), .val (.int p2), .val (.int p3), .val (.int p4), .val (.int p5), .val .null, .val (.int (2 : Int32)), .val (.ref r21), .unset, .unset] [.null, (.int p1), (.ref b22), (.ref b22)])) _
      refine Goes.via (fun t k => XS.aload X22.here hx rfl (hb hby at_59) rfl rfl k) ?_
      show Goes p e below (T22.setTop (mkF m 61 #[.val (.int p1), .val (.int p2), .val (.int p3), .val (.int p4), .val (.int p5), .val .null, .val (.int (2 : Int32)), .val (.ref r21), .unset, .unset] [(.ref r21), .null, (.int p1), (.ref b22), (.ref b22)])) _
      obtain ⟨Lw23, X23w, N23w⟩ := ownPack X22 N21
      obtain ⟨_, _, ⟨T24, L24, k24, n24⟩, -, X24, ⟨Lc24, hQ24, l24, y24, z24⟩, st24⟩ := X23w.specialBack hx (y := (⟨"cascabel/model/selector/TypeSelector", "<init>", "(ILjava/lang/String;Ljava/lang/String;)V"⟩ : MethodName)) rfl hown (mvT hZ (hw _ (List.mem_of_getElem? (i := 41) rfl))) (mvT hZ (hw _ (List.mem_of_getElem? (i := 42) rfl))) (mvT hZ (hw _ (List.mem_of_getElem? (i := 43) rfl))) (by decide) (backOf (W := 1) (rm8_01 l Z a0 hw [] b22 p1 r21  h22 n0 Z22 A22 F22_offset F22_namespace F22_name ge_b22) hZ (hw _ (List.mem_of_getElem? (i := 43) rfl)) (hw _ (List.mem_of_getElem? (i := 40) rfl)) (by decide) (by decide)) (g := (mkF m 61 #[.val (.int p1), .val (.int p2), .val (.int p3), .val (.int p4), .val (.int p5), .val .null, .val (.int (2 : Int32)), .val (.ref r21), .unset, .unset] [(.ref r21), .null, (.int p1), (.ref b22), (.ref b22)])) rfl (by rw [hml]; rfl) (Steps.refl _) (a := b22) (argsL := [(.int p1), .null, (.ref r21)]) (rest := [(.ref b22)]) (lenOf pd_0_1 rfl) rfl (by show 2 * 0 + _ ≤ _; exact Nat.le_of_eq rfl) (hb hby at_61) (fun _ _ => ⟨rfl, e22, (by decide : 3 + 0 ≤ _), (by decide : 11 + 0 ≤ _)⟩)
      dsimp only [Pt.U, Pt.locs, Pt.cells, Pt.slots] at X24 l24 y24 z24 st24 hQ24
      subst l24 y24 z24
      obtain ⟨rfl, N24q, Kc24, Ec24, Fn24⟩ := hQ24
      have F24_46 := A22.keep Kc24
      have K24 : Keep h0 T24.heap [] := K22.trans Kc24 (fun x hx => by cases List.mem_singleton.mp hx; exact Or.inr sz_b22)
      have Z24 : n0 ≤ T24.heap.size := Nat.le_trans Z22 Kc24.1
      have O24 := O22.keep Kc24 (fun x hx => by cases List.mem_singleton.mp hx; exact ge_b22)
      have hk := Nat.le_trans hk Kc24.1
      have N24 := Fr.app N23w N24q
      refine Goes.via (fun t k => st24.trans k) ?_
      show Goes p e below (T24.setTop (mkF m 64 #[.val (.int p1), .val (.int p2), .val (.int p3), .val (.int p4), .val (.int p5), .val .null, .val (.int (2 : Int32)), .val (.ref r21), .unset, .unset] [(.ref b22)])) _
      refine Goes.via (fun t k => XS.astore X24.here hx rfl (hb hby at_64) rfl rfl (l' := #[.val (.int p1), .val (.int p2), .val (.int p3), .val (.int p4), .val (.int p5), .val .null, .val (.int (2 : Int32)), .val (.ref r21), .val (.ref b22), .unset]) rfl k) ?_
      show Goes p e below (T24.setTop (mkF m 66 #[.val (.int p1), .val (.int p2), .val (.int p3), .val (.int p4), .val (.int p5), .val .null, .val (.int (2 : Int32)), .val (.ref r21), .val (.ref b22), .unset] [])) _
      refine Goes.via (fun t k => XS.iload X24.here hx rfl (hb hby at_66) rfl k) ?_
      show Goes p e below (T24.setTop (mkF m 68 #[.val (.int p1), .val (.int p2), .val (.int p3), .val (.int p4), .val (.int p5), .val .null, .val (.int (2 : Int32)), .val (.ref r21), .val (.ref b22), .unset] [(.int (2 : Int32))])) _
      refine Goes.via (fun t k => XS.ifYes X24.here hx rfl (pc0 := 68) (pc' := 75) rfl (hb hby at_68) rfl ((if0 _ _).trans (feq (show ¬ ((2 : Int32) = (0 : Int32)) from (by decide))).2) (by decide) (by decide) k) ?_
      show Goes p e below (T24.setTop (mkF m 75 #[.val (.int p1), .val (.int p2), .val (.int p3), .val (.int p4), .val (.int p5), .val .null, .val (.int (2 : Int32)), .val (.ref r21), .val (.ref b22), .unset] [])) _
      refine Goes.via (fun t k => XS.iconst X24.here hx rfl (hb hby at_75) k) ?_
      show Goes p e below (T24.setTop (mkF m 76 #[.val (.int p1), .val (.int p2), .val (.int p3), .val (.int p4), .val (.int p5), .val .null, .val (.int (2 : Int32)), .val (.ref r21), .val (.ref b22), .unset] [(.int (0 : Int32))])) _
      refine Goes.via (fun t k => XS.istore X24.here hx rfl (hb hby at_76) rfl (l' := #[.val (.int p1), .val (.int p2), .val (.int p3), .val (.int p4), .val (.int p5), .val .null, .val (.int (2 : Int32)), .val (.ref r21), .val (.ref b22), .val (.int (0 : Int32))]) rfl k) ?_
      show Goes p e below (T24.setTop (mkF m 78 #[.val (.int p1), .val (.int p2), .val (.int p3), .val (.int p4), .val (.int p5), .val .null, .val (.int (2 : Int32)), .val (.ref r21), .val (.ref b22), .val (.int (0 : Int32))] [])) _
      refine Goes.via (fun t k => XS.aload X24.here hx rfl (hb hby at_78) rfl rfl k) ?_
      show Goes p e below (T24.setTop (mkF m 80 #[.val (.int p1), .val (.int p2), .val (.int p3), .val (.int p4), .val (.int p5), .val .null, .val (.int (2 : Int32)), .val (.ref r21), .val (.ref b22), .val (.int (0 : Int32))] [(.ref b22)])) _
      try clear Ec24; try clear Kc24; try clear N24q; try clear st24; try clear z24; try clear y24; try clear l24; try clear hQ24; try clear Lc24; try clear n24; try clear k24; try clear L24
      try clear N23w; try clear X23w; try clear Lw23; try clear F22_name; try clear F22_namespace; try clear F22_offset; try clear O22; try clear Z22; try clear K22; try clear size; try clear g22; try clear st22
      try clear D22; try clear A22; try clear E22; try clear e22; try clear X22; try clear h22; try clear T22; try clear N21; try clear O21; try clear Z21; try clear K21; try clear Kc21
      try clear N21q; try clear hown21; try clear hZ21; try clear hS21; try clear X21f; try clear st21; try clear z21; try clear y21; try clear l21; try clear hQ21; try clear Lc21; try clear sg21
      try clear S21; try clear X21; try clear n21; try clear k21; try clear L21; try clear T21; try clear N20w; try clear X20w; try clear Lw20; try clear N2; try clear e2; try clear er2
      try clear N2q; try clear st2; try clear z2; try clear y2; try clear l2; try clear hQ2; try clear Lc2; try clear X2; try clear n2; try clear k2; try clear L2; try clear T2
      obtain ⟨Lw25, X25w, N25w⟩ := ownPack X24 N24
      obtain ⟨cq26, kq26, q26a, q26b, q26c⟩ := isOf hZ rfl F24_46
      obtain ⟨_, _, ⟨T26, L26, k26, n26⟩, -, X26, ⟨Lc26, hQ26, l26, y26, z26⟩, st26⟩ := X25w.virtualBack hx (y := (⟨"cascabel/model/selector/TypeSelector", "isUniversal", "()Z"⟩ : MethodName)) (z := (⟨"cascabel/model/selector/TypeSelector", "isUniversal", "()Z"⟩ : MethodName)) hown (mvT hZ (hw _ (List.mem_of_getElem? (i := 56) rfl))) (mvT hZ (hw _ (List.mem_of_getElem? (i := 57) rfl))) (notFace_of_selects (args := #[]) (mvT hZ (hw _ (List.mem_of_getElem? (i := 59) rfl)))) (mvT hZ (hw _ (List.mem_of_getElem? (i := 59) rfl))) (mvT hZ (hw _ (List.mem_of_getElem? (i := 58) rfl))) (by decide) (backOf (W := 0) (rm10_1 l Z a0 hw [] b22 r21 T24.heap n0 Z24 Fn24) hZ (hw _ (List.mem_of_getElem? (i := 60) rfl)) (hw _ (List.mem_of_getElem? (i := 40) rfl)) (by decide) (by decide)) q26a q26c (g := (mkF m 80 #[.val (.int p1), .val (.int p2), .val (.int p3), .val (.int p4), .val (.int p5), .val .null, .val (.int (2 : Int32)), .val (.ref r21), .val (.ref b22), .val (.int (0 : Int32))] [(.ref b22)])) rfl (by rw [hml]; rfl) (Steps.refl _) (argsL := []) (rest := []) (lenOf pd_0_2 rfl) rfl (by show 2 * 0 + _ ≤ _; exact Nat.le_of_eq rfl) (hb hby at_80) (fun _ _ => ⟨rfl, rfl, (by decide : 3 + 0 ≤ _), (by decide : 11 + 0 ≤ _)⟩)
      dsimp only [Pt.U, Pt.locs, Pt.cells, Pt.slots] at X26 l26 y26 z26 st26 hQ26
      subst l26 y26 z26
      obtain ⟨rfl, N26q, er26⟩ := hQ26
      have e26 : T26.heap = T24.heap := er26
      have N26 := Fr.app N25w N26q
      refine Goes.via (fun t k => st26.trans k) ?_
      show Goes p e below (T26.setTop (mkF m 83 #[.val (.int p1), .val (.int p2), .val (.int p3), .val (.int p4), .val (.int p5), .val .null, .val (.int (2 : Int32)), .val (.ref r21), .val (.ref b22), .val (.int (0 : Int32))] [(.int (0 : Int32))])) _
      refine Goes.via (fun t k => XS.iload X26.here hx rfl (hb hby at_83) rfl k) ?_
      show Goes p e below (T26.setTop (mkF m 85 #[.val (.int p1), .val (.int p2), .val (.int p3), .val (.int p4), .val (.int p5), .val .null, .val (.int (2 : Int32)), .val (.ref r21), .val (.ref b22), .val (.int (0 : Int32))] [(.int (0 : Int32)), (.int (0 : Int32))])) _
      refine Goes.via (fun t k => XS.icmpNo X26.here hx rfl (hb hby at_85) rfl (teq (show (0 : Int32) = (0 : Int32) from rfl)).2 k) ?_
      show Goes p e below (T26.setTop (mkF m 88 #[.val (.int p1), .val (.int p2), .val (.int p3), .val (.int p4), .val (.int p5), .val .null, .val (.int (2 : Int32)), .val (.ref r21), .val (.ref b22), .val (.int (0 : Int32))] [])) _
      refine Goes.via (fun t k => XS.iconst X26.here hx rfl (hb hby at_88) k) ?_
      show Goes p e below (T26.setTop (mkF m 89 #[.val (.int p1), .val (.int p2), .val (.int p3), .val (.int p4), .val (.int p5), .val .null, .val (.int (2 : Int32)), .val (.ref r21), .val (.ref b22), .val (.int (0 : Int32))] [(.int (1 : Int32))])) _
      refine Goes.via (fun t k => XS.goto X26.here hx rfl (pc0 := 89) (pc' := 93) rfl (hb hby at_89) (by decide) (by decide) k) ?_
      show Goes p e below (T26.setTop (mkF m 93 #[.val (.int p1), .val (.int p2), .val (.int p3), .val (.int p4), .val (.int p5), .val .null, .val (.int (2 : Int32)), .val (.ref r21), .val (.ref b22), .val (.int (0 : Int32))] [(.int (1 : Int32))])) _
      obtain ⟨fs, hr, hrun, hended, hRE⟩ := X26.leaveW hS (by rw [e26]; exact hk) (v := some (.int (1 : Int32))) (fun h => by rw [Bd.returns] at h; cases h)
      refine ⟨_, _, ?_, hrun, hended, _, _, rfl, ?_, hRE.1, hRE.2.1, hRE.2.2.1, hRE.2.2.2.mono (by decide) (by decide)⟩
      · exact retN X26 hx (t := .boolean) Bd.returns (by simp) (hb hby at_93) hr
      · show Q0 Z  h0 n0 _ T26.heap _ _
        rw [e26]
        exact ⟨rfl, N26⟩
    · rw [hlB]
      show Goes p e below (T2.setTop (mkF m 27 #[.val (.int p1), .val (.int p2), .val (.int p3), .val (.int p4), .val (.int p5), .val .null, .unset, .unset, .unset, .unset] [(.int (3 : Int32))])) _
      refine Goes.via (fun t k => XS.istore X2.here hx rfl (hb hby at_27) rfl (l' := #[.val (.int p1), .val (.int p2), .val (.int p3), .val (.int p4), .val (.int p5), .val .null, .val (.int (3 : Int32)), .unset, .unset, .unset]) rfl k) ?_
      show Goes p e below (T2.setTop (mkF m 29 #[.val (.int p1), .val (.int p2), .val (.int p3), .val (.int p4), .val (.int p5), .val .null, .val (.int (3 : Int32)), .unset, .unset, .unset] [])) _
      refine Goes.via (fun t k => XS.iload X2.here hx rfl (hb hby at_29) rfl k) ?_
      show Goes p e below (T2.setTop (mkF m 31 #[.val (.int p1), .val (.int p2), .val (.int p3), .val (.int p4), .val (.int p5), .val .null, .val (.int (3 : Int32)), .unset, .unset, .unset] [(.int (3 : Int32))])) _
      refine Goes.via (fun t k => XS.iloadN X2.here hx rfl (hb hby at_31) rfl k) ?_
      show Goes p e below (T2.setTop (mkF m 32 #[.val (.int p1), .val (.int p2), .val (.int p3), .val (.int p4), .val (.int p5), .val .null, .val (.int (3 : Int32)), .unset, .unset, .unset] [(.int p4), (.int (3 : Int32))])) _
      refine Goes.via (fun t k => XS.iload X2.here hx rfl (hb hby at_32) rfl k) ?_
      show Goes p e below (T2.setTop (mkF m 34 #[.val (.int p1), .val (.int p2), .val (.int p3), .val (.int p4), .val (.int p5), .val .null, .val (.int (3 : Int32)), .unset, .unset, .unset] [(.int p5), (.int p4), (.int (3 : Int32))])) _
      refine Goes.via (fun t k => XS.iloadN X2.here hx rfl (hb hby at_34) rfl k) ?_
      show Goes p e below (T2.setTop (mkF m 35 #[.val (.int p1), .val (.int p2), .val (.int p3), .val (.int p4), .val (.int p5), .val .null, .val (.int (3 : Int32)), .unset, .unset, .unset] [(.int p3), (.int p5), (.int p4), (.int (3 : Int32))])) _
      refine Goes.via (fun t k => XS.iconst X2.here hx rfl (hb hby at_35) k) ?_
      show Goes p e below (T2.setTop (mkF m 36 #[.val (.int p1), .val (.int p2), .val (.int p3), .val (.int p4), .val (.int p5), .val .null, .val (.int (3 : Int32)), .unset, .unset, .unset] [(.int (2 : Int32)), (.int p3), (.int p5), (.int p4), (.int (3 : Int32))])) _
      refine Goes.via (fun t k => XS.iushr X2.here hx rfl (hb hby at_36) rfl k) ?_
      show Goes p e below (T2.setTop (mkF m 37 #[.val (.int p1), .val (.int p2), .val (.int p3), .val (.int p4), .val (.int p5), .val .null, .val (.int (3 : Int32)), .unset, .unset, .unset] [(.int ((p3.toUInt32 >>> ((2 : Int32) &&& 31).toUInt32).toInt32)), (.int p5), (.int p4), (.int (3 : Int32))])) _
      refine Goes.via (fun t k => XS.iconst X2.here hx rfl (hb hby at_37) k) ?_
      show Goes p e below (T2.setTop (mkF m 38 #[.val (.int p1), .val (.int p2), .val (.int p3), .val (.int p4), .val (.int p5), .val .null, .val (.int (3 : Int32)), .unset, .unset, .unset] [(.int (1 : Int32)), (.int ((p3.toUInt32 >>> ((2 : Int32) &&& 31).toUInt32).toInt32)), (.int p5), (.int p4), (.int (3 : Int32))])) _
      refine Goes.via (fun t k => XS.iand X2.here hx rfl (hb hby at_38) rfl k) ?_
      show Goes p e below (T2.setTop (mkF m 39 #[.val (.int p1), .val (.int p2), .val (.int p3), .val (.int p4), .val (.int p5), .val .null, .val (.int (3 : Int32)), .unset, .unset, .unset] [(.int (((p3.toUInt32 >>> ((2 : Int32) &&& 31).toUInt32).toInt32) &&& (1 : Int32))), (.int p5), (.int p4), (.int (3 : Int32))])) _
      refine Goes.via (next := T2.setTop (mkF m 47 #[.val (.int p1), .val (.int p2), .val (.int p3), .val (.int p4), .val (.int p5), .val .null, .val (.int (3 : Int32)), .unset, .unset, .unset] [(.int (v0_47_1 p3)), (.int p5), (.int p4), (.int (3 : Int32))])) (fun t k => ?_) ?_
      · by_cases hc39_27 : (((p3.toUInt32 >>> ((2 : Int32) &&& 31).toUInt32).toInt32) &&& (1 : Int32)) = (0 : Int32)
        · refine XS.ifYes X2.here hx rfl (pc0 := 39) (pc' := 46) rfl (hb hby at_39) rfl ((if0 _ _).trans (teq hc39_27).1) (by decide) (by decide) ?_
          show Steps p.tables e below (T2.setTop (mkF m 46 #[.val (.int p1), .val (.int p2), .val (.int p3), .val (.int p4), .val (.int p5), .val .null, .val (.int (3 : Int32)), .unset, .unset, .unset] [(.int p5), (.int p4), (.int (3 : Int32))])) _
          refine XS.iconst X2.here hx rfl (hb hby at_46) ?_
          show Steps p.tables e below (T2.setTop (mkF m 47 #[.val (.int p1), .val (.int p2), .val (.int p3), .val (.int p4), .val (.int p5), .val .null, .val (.int (3 : Int32)), .unset, .unset, .unset] [(.int (0 : Int32)), (.int p5), (.int p4), (.int (3 : Int32))])) _
          simpa only [v0_47_1, if_pos hc39_27] using k
        · refine XS.ifNo X2.here hx rfl (hb hby at_39) rfl ((if0 _ _).trans (feq hc39_27).1) ?_
          show Steps p.tables e below (T2.setTop (mkF m 42 #[.val (.int p1), .val (.int p2), .val (.int p3), .val (.int p4), .val (.int p5), .val .null, .val (.int (3 : Int32)), .unset, .unset, .unset] [(.int p5), (.int p4), (.int (3 : Int32))])) _
          refine XS.iconst X2.here hx rfl (hb hby at_42) ?_
          show Steps p.tables e below (T2.setTop (mkF m 43 #[.val (.int p1), .val (.int p2), .val (.int p3), .val (.int p4), .val (.int p5), .val .null, .val (.int (3 : Int32)), .unset, .unset, .unset] [(.int (1 : Int32)), (.int p5), (.int p4), (.int (3 : Int32))])) _
          refine XS.goto X2.here hx rfl (pc0 := 43) (pc' := 47) rfl (hb hby at_43) (by decide) (by decide) ?_
          show Steps p.tables e below (T2.setTop (mkF m 47 #[.val (.int p1), .val (.int p2), .val (.int p3), .val (.int p4), .val (.int p5), .val .null, .val (.int (3 : Int32)), .unset, .unset, .unset] [(.int (1 : Int32)), (.int p5), (.int p4), (.int (3 : Int32))])) _
          simpa only [v0_47_1, if_neg hc39_27] using k
      show Goes p e below (T2.setTop (mkF m 47 #[.val (.int p1), .val (.int p2), .val (.int p3), .val (.int p4), .val (.int p5), .val .null, .val (.int (3 : Int32)), .unset, .unset, .unset] [(.int (v0_47_1 p3)), (.int p5), (.int p4), (.int (3 : Int32))])) _
      obtain ⟨Lw28, X28w, N28w⟩ := ownPack X2 N2
      obtain ⟨_, _, ⟨T29, L29, k29, n29⟩, -, X29, ⟨Lc29, hQ29, l29, y29, z29⟩, st29⟩ := Jvm.LawKit.callS X28w hx (y := (⟨"cascabel/model/selector/TypeSelectorIsUniversalPinLaw", "pick", "(IIIZ)Ljava/lang/String;"⟩ : MethodName)) hown (mvT hZ (hw _ (List.mem_of_getElem? (i := 0) rfl))) (mvT hZ (hw _ (List.mem_of_getElem? (i := 1) rfl))) (mvT hZ (hw _ (List.mem_of_getElem? (i := 2) rfl))) (mvT hZ (hw _ (List.mem_of_getElem? (i := 3) rfl))) (by decide) (backOf (W := 0) (rm1_3 l Z a0 hw [] p4 p5 (v0_47_1 p3) w0 h0 n0 Z0 O0 St) hZ (hw _ (List.mem_of_getElem? (i := 3) rfl)) (hw _ (List.mem_of_getElem? (i := 2) rfl)) (by decide) (by decide)) (g := (mkF m 47 #[.val (.int p1), .val (.int p2), .val (.int p3), .val (.int p4), .val (.int p5), .val .null, .val (.int (3 : Int32)), .unset, .unset, .unset] [(.int (v0_47_1 p3)), (.int p5), (.int p4), (.int (3 : Int32))])) rfl (by rw [hml]; rfl) (argsL := [(.int (3 : Int32)), (.int p4), (.int p5), (.int (v0_47_1 p3))]) (rest := []) (lenOf pd_0_0 rfl) rfl (by show 2 * 0 + _ ≤ _; exact Nat.le_of_eq rfl) (hb hby at_47) (fun _ _ => ⟨rfl, e2, (by decide : 0 + 4 ≤ _), (by decide : 0 + 8 ≤ _)⟩)
      dsimp only [Pt.U, Pt.locs, Pt.cells, Pt.slots] at X29 l29 y29 z29 st29 hQ29
      subst l29 y29 z29
      obtain ⟨r29, rfl, N29q, Kc29⟩ := hQ29
      have K29 : Keep h0 T29.heap [] := (Keep.refl h0 []).trans Kc29 (fun x hx => nomatch hx)
      have Z29 : n0 ≤ T29.heap.size := Nat.le_trans Z0 Kc29.1
      have O29 := O0.keep Kc29 (fun x hx => nomatch hx)
      have hk := Nat.le_trans hk Kc29.1
      have N29 := Fr.app N28w N29q
      refine Goes.via st29 ?_
      show Goes p e below (T29.setTop (mkF m 50 #[.val (.int p1), .val (.int p2), .val (.int p3), .val (.int p4), .val (.int p5), .val .null, .val (.int (3 : Int32)), .unset, .unset, .unset] [(.ref r29)])) _
      refine Goes.via (fun t k => XS.astore X29.here hx rfl (hb hby at_50) rfl rfl (l' := #[.val (.int p1), .val (.int p2), .val (.int p3), .val (.int p4), .val (.int p5), .val .null, .val (.int (3 : Int32)), .val (.ref r29), .unset, .unset]) rfl k) ?_
      show Goes p e below (T29.setTop (mkF m 52 #[.val (.int p1), .val (.int p2), .val (.int p3), .val (.int p4), .val (.int p5), .val .null, .val (.int (3 : Int32)), .val (.ref r29), .unset, .unset] [])) _
      obtain ⟨T30, h30, X30, e30, E30, A30, D30, -, st30⟩ := newO X29 hx hZ hown (hw _ (List.mem_of_getElem? (i := 38) rfl)) (hw _ (List.mem_of_getElem? (i := 39) rfl)) (hw _ (List.mem_of_getElem? (i := 40) rfl)) rfl (g := (mkF m 52 #[.val (.int p1), .val (.int p2), .val (.int p3), .val (.int p4), .val (.int p5), .val .null, .val (.int (3 : Int32)), .val (.ref r29), .unset, .unset] [])) rfl (hb hby at_52) (by decide) (by decide)
      obtain ⟨b30, g30⟩ : ∃ z, z = T29.heap.size := ⟨_, rfl⟩
      rw [← g30] at A30 D30 st30
      have ge_b30 : n0 ≤ b30 := Nat.le_trans Z29 (Nat.le_of_eq g30.symm)
      have sz_b30 : h0.size ≤ b30 := Nat.le_trans K29.1 (Nat.le_of_eq g30.symm)
      have K30 : Keep h0 h30 [] := K29.ext E30
      have Z30 : n0 ≤ h30.size := Nat.le_trans Z29 E30.1
      have O30 := O29.ext E30
      have hk := Nat.le_trans hk E30.1
      have F30_offset : Fld Z h30 b30 "cascabel/model/selector/TypeSelector" "offset" "I" (.int (0 : Int32)) := D30 (Or.inr (hw _ (List.mem_of_getElem? (i := 51) rfl))) (ty := .int) (by decide)
      have F30_namespace : Fld Z h30 b30 "cascabel/model/selector/TypeSelector" "namespace" "Ljava/lang/String;" .null := D30 (Or.inr (hw _ (List.mem_of_getElem? (i := 53) rfl))) (ty := (.object "java/lang/String")) (by decide)
      have F30_name : Fld Z h30 b30 "cascabel/model/selector/TypeSelector" "name" "Ljava/lang/String;" .null := D30 (Or.inr (hw _ (List.mem_of_getElem? (i := 55) rfl))) (ty := (.object "java/lang/String")) (by decide)
      refine Goes.via st30 ?_
      show Goes p e below (T30.setTop (mkF m 55 #[.val (.int p1), .val (.int p2), .val (.int p3), .val (.int p4), .val (.int p5), .val .null, .val (.int (3 : Int32)), .val (.ref r29), .unset, .unset] [(.ref b30)])) _
      refine Goes.via (fun t k => XS.dup X30.here hx rfl (hb hby at_55) rfl rfl k) ?_
      show Goes p e below (T30.setTop (mkF m 56 #[.val (.int p1), .val (.int p2), .val (.int p3), .val (.int p4), .val (.int p5), .val .null, .val (.int (3 : Int32)), .val (.ref r29), .unset, .unset] [(.ref b30), (.ref b30)])) _
      refine Goes.via (fun t k => XS.iloadN X30.here hx rfl (hb hby at_56) rfl k) ?_
      show Goes p e below (T30.setTop (mkF m 57 #[.val (.int p1), .val (.int p2), .val (.int p3), .val (.int p4), .val (.int p5), .val .null, .val (.int (3 : Int32)), .val (.ref r29), .unset, .unset] [(.int p1), (.ref b30), (.ref b30)])) _
      refine Goes.via (fun t k => XS.aload X30.here hx rfl (hb hby at_57) rfl rfl k) ?_
      show Goes p e below (T30.setTop (mkF m 59 #[.val (.int p1), .val (.int p2), .val (.int p3), .val (.int p4), .val (.int p5), .val .null, .val (.int (3 : Int32)), .val (.ref r29), .unset, .unset] [.null, (.int p1), (.ref b30), (.ref b30)])) _
      refine Goes.via (fun t k => XS.aload X30.here hx rfl (hb hby at_59) rfl rfl k) ?_
      show Goes p e below (T30.setTop (mkF m 61 #[.val (.int p1), .val (.int p2), .val (.int p3), .val (.int p4), .val (.int p5), .val .null, .val (.int (3 : Int32)), .val (.ref r29), .unset, .unset] [(.ref r29), .null, (.int p1), (.ref b30), (.ref b30)])) _
      obtain ⟨Lw31, X31w, N31w⟩ := ownPack X30 N29
      obtain ⟨_, _, ⟨T32, L32, k32, n32⟩, -, X32, ⟨Lc32, hQ32, l32, y32, z32⟩, st32⟩ := X31w.specialBack hx (y := (⟨"cascabel/model/selector/TypeSelector", "<init>", "(ILjava/lang/String;Ljava/lang/String;)V"⟩ : MethodName)) rfl hown (mvT hZ (hw _ (List.mem_of_getElem? (i := 41) rfl))) (mvT hZ (hw _ (List.mem_of_getElem? (i := 42) rfl))) (mvT hZ (hw _ (List.mem_of_getElem? (i := 43) rfl))) (by decide) (backOf (W := 1) (rm8_01 l Z a0 hw [] b30 p1 r29  h30 n0 Z30 A30 F30_offset F30_namespace F30_name ge_b30) hZ (hw _ (List.mem_of_getElem? (i := 43) rfl)) (hw _ (List.mem_of_getElem? (i := 40) rfl)) (by decide) (by decide)) (g := (mkF m 61 #[.val (.int p1), .val (.int p2), .val (.int p3), .val (.int p4), .val (.int p5), .val .null, .val (.int (3 : Int32)), .val (.ref r29), .unset, .unset] [(.ref r29), .null, (.int p1), (.ref b30), (.ref b30)])) rfl (by rw [hml]; rfl) (Steps.refl _) (a := b30) (argsL := [(.int p1), .null, (.ref r29)]) (rest := [(.ref b30)]) (lenOf pd_0_1 rfl) rfl (by show 2 * 0 + _ ≤ _; exact Nat.le_of_eq rfl) (hb hby at_61) (fun _ _ => ⟨rfl, e30, (by decide : 5 + 0 ≤ _), (by decide : 11 + 0 ≤ _)⟩)
      dsimp only [Pt.U, Pt.locs, Pt.cells, Pt.slots] at X32 l32 y32 z32 st32 hQ32
      subst l32 y32 z32
      obtain ⟨rfl, N32q, Kc32, Ec32, Fn32⟩ := hQ32
      have F32_41 := A30.keep Kc32
      have K32 : Keep h0 T32.heap [] := K30.trans Kc32 (fun x hx => by cases List.mem_singleton.mp hx; exact Or.inr sz_b30)
      have Z32 : n0 ≤ T32.heap.size := Nat.le_trans Z30 Kc32.1
      have O32 := O30.keep Kc32 (fun x hx => by cases List.mem_singleton.mp hx; exact ge_b30)
      have hk := Nat.le_trans hk Kc32.1
      have N32 := Fr.app N31w N32q
      refine Goes.via (fun t k => st32.trans k) ?_
      show Goes p e below (T32.setTop (mkF m 64 #[.val (.int p1), .val (.int p2), .val (.int p3), .val (.int p4), .val (.int p5), .val .null, .val (.int (3 : Int32)), .val (.ref r29), .unset, .unset] [(.ref b30)])) _
      refine Goes.via (fun t k => XS.astore X32.here hx rfl (hb hby at_64) rfl rfl (l' := #[.val (.int p1), .val (.int p2), .val (.int p3), .val (.int p4), .val (.int p5), .val .null, .val (.int (3 : Int32)), .val (.ref r29), .val (.ref b30), .unset]) rfl k) ?_
      show Goes p e below (T32.setTop (mkF m 66 #[.val (.int p1), .val (.int p2), .val (.int p3), .val (.int p4), .val (.int p5), .val .null, .val (.int (3 : Int32)), .val (.ref r29), .val (.ref b30), .unset] [])) _
      refine Goes.via (fun t k => XS.iload X32.here hx rfl (hb hby at_66) rfl k) ?_
      show Goes p e below (T32.setTop (mkF m 68 #[.val (.int p1), .val (.int p2), .val (.int p3), .val (.int p4), .val (.int p5), .val .null, .val (.int (3 : Int32)), .val (.ref r29), .val (.ref b30), .unset] [(.int (3 : Int32))])) _
      refine Goes.via (fun t k => XS.ifYes X32.here hx rfl (pc0 := 68) (pc' := 75) rfl (hb hby at_68) rfl ((if0 _ _).trans (feq (show ¬ ((3 : Int32) = (0 : Int32)) from (by decide))).2) (by decide) (by decide) k) ?_
      show Goes p e below (T32.setTop (mkF m 75 #[.val (.int p1), .val (.int p2), .val (.int p3), .val (.int p4), .val (.int p5), .val .null, .val (.int (3 : Int32)), .val (.ref r29), .val (.ref b30), .unset] [])) _
      refine Goes.via (fun t k => XS.iconst X32.here hx rfl (hb hby at_75) k) ?_
      show Goes p e below (T32.setTop (mkF m 76 #[.val (.int p1), .val (.int p2), .val (.int p3), .val (.int p4), .val (.int p5), .val .null, .val (.int (3 : Int32)), .val (.ref r29), .val (.ref b30), .unset] [(.int (0 : Int32))])) _
      refine Goes.via (fun t k => XS.istore X32.here hx rfl (hb hby at_76) rfl (l' := #[.val (.int p1), .val (.int p2), .val (.int p3), .val (.int p4), .val (.int p5), .val .null, .val (.int (3 : Int32)), .val (.ref r29), .val (.ref b30), .val (.int (0 : Int32))]) rfl k) ?_
      show Goes p e below (T32.setTop (mkF m 78 #[.val (.int p1), .val (.int p2), .val (.int p3), .val (.int p4), .val (.int p5), .val .null, .val (.int (3 : Int32)), .val (.ref r29), .val (.ref b30), .val (.int (0 : Int32))] [])) _
      refine Goes.via (fun t k => XS.aload X32.here hx rfl (hb hby at_78) rfl rfl k) ?_
      show Goes p e below (T32.setTop (mkF m 80 #[.val (.int p1), .val (.int p2), .val (.int p3), .val (.int p4), .val (.int p5), .val .null, .val (.int (3 : Int32)), .val (.ref r29), .val (.ref b30), .val (.int (0 : Int32))] [(.ref b30)])) _
      try clear Ec32; try clear Kc32; try clear N32q; try clear st32; try clear z32; try clear y32; try clear l32; try clear hQ32; try clear Lc32; try clear n32; try clear k32; try clear L32
      try clear N31w; try clear X31w; try clear Lw31; try clear F30_name; try clear F30_namespace; try clear F30_offset; try clear O30; try clear Z30; try clear K30; try clear size; try clear g30; try clear st30
      try clear D30; try clear A30; try clear E30; try clear e30; try clear X30; try clear h30; try clear T30; try clear N29; try clear O29; try clear Z29; try clear K29; try clear Kc29
      try clear N29q; try clear st29; try clear z29; try clear y29; try clear l29; try clear hQ29; try clear Lc29; try clear X29; try clear n29; try clear k29; try clear L29; try clear T29
      try clear N28w; try clear X28w; try clear Lw28; try clear N2; try clear e2; try clear er2; try clear N2q; try clear st2; try clear z2; try clear y2; try clear l2; try clear hQ2
      try clear Lc2; try clear X2; try clear n2; try clear k2; try clear L2; try clear T2
      obtain ⟨Lw33, X33w, N33w⟩ := ownPack X32 N32
      obtain ⟨cq34, kq34, q34a, q34b, q34c⟩ := isOf hZ rfl F32_41
      obtain ⟨_, _, ⟨T34, L34, k34, n34⟩, -, X34, ⟨Lc34, hQ34, l34, y34, z34⟩, st34⟩ := X33w.virtualBack hx (y := (⟨"cascabel/model/selector/TypeSelector", "isUniversal", "()Z"⟩ : MethodName)) (z := (⟨"cascabel/model/selector/TypeSelector", "isUniversal", "()Z"⟩ : MethodName)) hown (mvT hZ (hw _ (List.mem_of_getElem? (i := 56) rfl))) (mvT hZ (hw _ (List.mem_of_getElem? (i := 57) rfl))) (notFace_of_selects (args := #[]) (mvT hZ (hw _ (List.mem_of_getElem? (i := 59) rfl)))) (mvT hZ (hw _ (List.mem_of_getElem? (i := 59) rfl))) (mvT hZ (hw _ (List.mem_of_getElem? (i := 58) rfl))) (by decide) (backOf (W := 0) (rm10_1 l Z a0 hw [] b30 r29 T32.heap n0 Z32 Fn32) hZ (hw _ (List.mem_of_getElem? (i := 60) rfl)) (hw _ (List.mem_of_getElem? (i := 40) rfl)) (by decide) (by decide)) q34a q34c (g := (mkF m 80 #[.val (.int p1), .val (.int p2), .val (.int p3), .val (.int p4), .val (.int p5), .val .null, .val (.int (3 : Int32)), .val (.ref r29), .val (.ref b30), .val (.int (0 : Int32))] [(.ref b30)])) rfl (by rw [hml]; rfl) (Steps.refl _) (argsL := []) (rest := []) (lenOf pd_0_2 rfl) rfl (by show 2 * 0 + _ ≤ _; exact Nat.le_of_eq rfl) (hb hby at_80) (fun _ _ => ⟨rfl, rfl, (by decide : 5 + 0 ≤ _), (by decide : 11 + 0 ≤ _)⟩)
      dsimp only [Pt.U, Pt.locs, Pt.cells, Pt.slots] at X34 l34 y34 z34 st34 hQ34
      subst l34 y34 z34
      obtain ⟨rfl, N34q, er34⟩ := hQ34
      have e34 : T34.heap = T32.heap := er34
      have N34 := Fr.app N33w N34q
      refine Goes.via (fun t k => st34.trans k) ?_
      show Goes p e below (T34.setTop (mkF m 83 #[.val (.int p1), .val (.int p2), .val (.int p3), .val (.int p4), .val (.int p5), .val .null, .val (.int (3 : Int32)), .val (.ref r29), .val (.ref b30), .val (.int (0 : Int32))] [(.int (0 : Int32))])) _
      refine Goes.via (fun t k => XS.iload X34.here hx rfl (hb hby at_83) rfl k) ?_
      show Goes p e below (T34.setTop (mkF m 85 #[.val (.int p1), .val (.int p2), .val (.int p3), .val (.int p4), .val (.int p5), .val .null, .val (.int (3 : Int32)), .val (.ref r29), .val (.ref b30), .val (.int (0 : Int32))] [(.int (0 : Int32)), (.int (0 : Int32))])) _
      refine Goes.via (fun t k => XS.icmpNo X34.here hx rfl (hb hby at_85) rfl (teq (show (0 : Int32) = (0 : Int32) from rfl)).2 k) ?_
      show Goes p e below (T34.setTop (mkF m 88 #[.val (.int p1), .val (.int p2), .val (.int p3), .val (.int p4), .val (.int p5), .val .null, .val (.int (3 : Int32)), .val (.ref r29), .val (.ref b30), .val (.int (0 : Int32))] [])) _
      refine Goes.via (fun t k => XS.iconst X34.here hx rfl (hb hby at_88) k) ?_
      show Goes p e below (T34.setTop (mkF m 89 #[.val (.int p1), .val (.int p2), .val (.int p3), .val (.int p4), .val (.int p5), .val .null, .val (.int (3 : Int32)), .val (.ref r29), .val (.ref b30), .val (.int (0 : Int32))] [(.int (1 : Int32))])) _
      refine Goes.via (fun t k => XS.goto X34.here hx rfl (pc0 := 89) (pc' := 93) rfl (hb hby at_89) (by decide) (by decide) k) ?_
      show Goes p e below (T34.setTop (mkF m 93 #[.val (.int p1), .val (.int p2), .val (.int p3), .val (.int p4), .val (.int p5), .val .null, .val (.int (3 : Int32)), .val (.ref r29), .val (.ref b30), .val (.int (0 : Int32))] [(.int (1 : Int32))])) _
      obtain ⟨fs, hr, hrun, hended, hRE⟩ := X34.leaveW hS (by rw [e34]; exact hk) (v := some (.int (1 : Int32))) (fun h => by rw [Bd.returns] at h; cases h)
      refine ⟨_, _, ?_, hrun, hended, _, _, rfl, ?_, hRE.1, hRE.2.1, hRE.2.2.1, hRE.2.2.2.mono (by decide) (by decide)⟩
      · exact retN X34 hx (t := .boolean) Bd.returns (by simp) (hb hby at_93) hr
      · show Q0 Z  h0 n0 _ T34.heap _ _
        rw [e34]
        exact ⟨rfl, N34⟩
  · rw [hlA]
    show Goes p e below (s₁.setTop (mkF m 3 #[.val (.int p1), .val (.int p2), .val (.int p3), .val (.int p4), .val (.int p5), .unset, .unset, .unset, .unset, .unset] [(.int (1 : Int32))])) _
    refine Goes.via (fun t k => XS.iloadN X0.here hx rfl (hb hby at_3) rfl k) ?_
    show Goes p e below (s₁.setTop (mkF m 4 #[.val (.int p1), .val (.int p2), .val (.int p3), .val (.int p4), .val (.int p5), .unset, .unset, .unset, .unset, .unset] [(.int p4), (.int (1 : Int32))])) _
    refine Goes.via (fun t k => XS.iload X0.here hx rfl (hb hby at_4) rfl k) ?_
    show Goes p e below (s₁.setTop (mkF m 6 #[.val (.int p1), .val (.int p2), .val (.int p3), .val (.int p4), .val (.int p5), .unset, .unset, .unset, .unset, .unset] [(.int p5), (.int p4), (.int (1 : Int32))])) _
    refine Goes.via (fun t k => XS.iloadN X0.here hx rfl (hb hby at_6) rfl k) ?_
    show Goes p e below (s₁.setTop (mkF m 7 #[.val (.int p1), .val (.int p2), .val (.int p3), .val (.int p4), .val (.int p5), .unset, .unset, .unset, .unset, .unset] [(.int p2), (.int p5), (.int p4), (.int (1 : Int32))])) _
    refine Goes.via (fun t k => XS.iconst X0.here hx rfl (hb hby at_7) k) ?_
    show Goes p e below (s₁.setTop (mkF m 8 #[.val (.int p1), .val (.int p2), .val (.int p3), .val (.int p4), .val (.int p5), .unset, .unset, .unset, .unset, .unset] [(.int (2 : Int32)), (.int p2), (.int p5), (.int p4), (.int (1 : Int32))])) _
    refine Goes.via (fun t k => XS.iushr X0.here hx rfl (hb hby at_8) rfl k) ?_
    show Goes p e below (s₁.setTop (mkF m 9 #[.val (.int p1), .val (.int p2), .val (.int p3), .val (.int p4), .val (.int p5), .unset, .unset, .unset, .unset, .unset] [(.int ((p2.toUInt32 >>> ((2 : Int32) &&& 31).toUInt32).toInt32)), (.int p5), (.int p4), (.int (1 : Int32))])) _
    refine Goes.via (fun t k => XS.iconst X0.here hx rfl (hb hby at_9) k) ?_
    show Goes p e below (s₁.setTop (mkF m 10 #[.val (.int p1), .val (.int p2), .val (.int p3), .val (.int p4), .val (.int p5), .unset, .unset, .unset, .unset, .unset] [(.int (1 : Int32)), (.int ((p2.toUInt32 >>> ((2 : Int32) &&& 31).toUInt32).toInt32)), (.int p5), (.int p4), (.int (1 : Int32))])) _
    refine Goes.via (fun t k => XS.iand X0.here hx rfl (hb hby at_10) rfl k) ?_
    show Goes p e below (s₁.setTop (mkF m 11 #[.val (.int p1), .val (.int p2), .val (.int p3), .val (.int p4), .val (.int p5), .unset, .unset, .unset, .unset, .unset] [(.int (((p2.toUInt32 >>> ((2 : Int32) &&& 31).toUInt32).toInt32) &&& (1 : Int32))), (.int p5), (.int p4), (.int (1 : Int32))])) _
    refine Goes.via (next := s₁.setTop (mkF m 19 #[.val (.int p1), .val (.int p2), .val (.int p3), .val (.int p4), .val (.int p5), .unset, .unset, .unset, .unset, .unset] [(.int (v0_19_0 p2)), (.int p5), (.int p4), (.int (1 : Int32))])) (fun t k => ?_) ?_
    · by_cases hc11_35 : (((p2.toUInt32 >>> ((2 : Int32) &&& 31).toUInt32).toInt32) &&& (1 : Int32)) = (0 : Int32)
      · refine XS.ifYes X0.here hx rfl (pc0 := 11) (pc' := 18) rfl (hb hby at_11) rfl ((if0 _ _).trans (teq hc11_35).1) (by decide) (by decide) ?_
        show Steps p.tables e below (s₁.setTop (mkF m 18 #[.val (.int p1), .val (.int p2), .val (.int p3), .val (.int p4), .val (.int p5), .unset, .unset, .unset, .unset, .unset] [(.int p5), (.int p4), (.int (1 : Int32))])) _
        refine XS.iconst X0.here hx rfl (hb hby at_18) ?_
        show Steps p.tables e below (s₁.setTop (mkF m 19 #[.val (.int p1), .val (.int p2), .val (.int p3), .val (.int p4), .val (.int p5), .unset, .unset, .unset, .unset, .unset] [(.int (0 : Int32)), (.int p5), (.int p4), (.int (1 : Int32))])) _
        simpa only [v0_19_0, if_pos hc11_35] using k
      · refine XS.ifNo X0.here hx rfl (hb hby at_11) rfl ((if0 _ _).trans (feq hc11_35).1) ?_
        show Steps p.tables e below (s₁.setTop (mkF m 14 #[.val (.int p1), .val (.int p2), .val (.int p3), .val (.int p4), .val (.int p5), .unset, .unset, .unset, .unset, .unset] [(.int p5), (.int p4), (.int (1 : Int32))])) _
        refine XS.iconst X0.here hx rfl (hb hby at_14) ?_
        show Steps p.tables e below (s₁.setTop (mkF m 15 #[.val (.int p1), .val (.int p2), .val (.int p3), .val (.int p4), .val (.int p5), .unset, .unset, .unset, .unset, .unset] [(.int (1 : Int32)), (.int p5), (.int p4), (.int (1 : Int32))])) _
        refine XS.goto X0.here hx rfl (pc0 := 15) (pc' := 19) rfl (hb hby at_15) (by decide) (by decide) ?_
        show Steps p.tables e below (s₁.setTop (mkF m 19 #[.val (.int p1), .val (.int p2), .val (.int p3), .val (.int p4), .val (.int p5), .unset, .unset, .unset, .unset, .unset] [(.int (1 : Int32)), (.int p5), (.int p4), (.int (1 : Int32))])) _
        simpa only [v0_19_0, if_neg hc11_35] using k
    show Goes p e below (s₁.setTop (mkF m 19 #[.val (.int p1), .val (.int p2), .val (.int p3), .val (.int p4), .val (.int p5), .unset, .unset, .unset, .unset, .unset] [(.int (v0_19_0 p2)), (.int p5), (.int p4), (.int (1 : Int32))])) _
    obtain ⟨_, _, ⟨T36, L36, k36, n36⟩, -, X36, S36, sg36, ⟨Lc36, hQ36, l36, y36, z36⟩, st36⟩ := callSS X0 hx (y := (⟨"cascabel/model/selector/TypeSelectorIsUniversalPinLaw", "pick", "(IIIZ)Ljava/lang/String;"⟩ : MethodName)) hown (mvT hZ (hw _ (List.mem_of_getElem? (i := 0) rfl))) (mvT hZ (hw _ (List.mem_of_getElem? (i := 1) rfl))) (mvT hZ (hw _ (List.mem_of_getElem? (i := 2) rfl))) (mvT hZ (hw _ (List.mem_of_getElem? (i := 3) rfl))) (by decide) (ownBackS (W := 0) (I := fun vm => True) (rm1_1 l Z a0 hw [] p4 p5 (v0_19_0 p2) w0 h0 n0 Z0 O0 St) hZ (fun _ _ => trivial) (hw _ (List.mem_of_getElem? (i := 3) rfl)) (hw _ (List.mem_of_getElem? (i := 2) rfl)) (by decide) (by decide)) (g := (mkF m 19 #[.val (.int p1), .val (.int p2), .val (.int p3), .val (.int p4), .val (.int p5), .unset, .unset, .unset, .unset, .unset] [(.int (v0_19_0 p2)), (.int p5), (.int p4), (.int (1 : Int32))])) rfl (by rw [hml]; rfl) (argsL := [(.int (1 : Int32)), (.int p4), (.int p5), (.int (v0_19_0 p2))]) (rest := []) (lenOf pd_0_0 rfl) rfl (by show 2 * 0 + _ ≤ _; exact Nat.le_of_eq rfl) (hb hby at_19) (fun _ _ => ⟨rfl, e0, (by decide : 0 + 2 ≤ _), (by decide : 0 + 4 ≤ _)⟩)
    dsimp only [Pt.U, Pt.locs, Pt.cells, Pt.slots] at X36 l36 y36 z36 st36 hQ36 S36 sg36
    subst l36 y36 z36
    obtain ⟨X36f, hS36, hZ36, hown36⟩ := rebS hS hk X36 S36 (by rw [← e0]; exact sg36) hZ hown
    have X36 := X36f
    have hS := hS36
    have hZ := hZ36
    have hown := hown36
    have hk : T36.heap.size ≤ T36.heap.size := Nat.le_refl _
    obtain ⟨r36, rfl, N36q, Kc36⟩ := hQ36
    have K36 : Keep h0 T36.heap [] := (Keep.refl h0 []).trans Kc36 (fun x hx => nomatch hx)
    have Z36 : n0 ≤ T36.heap.size := Nat.le_trans Z0 Kc36.1
    have O36 := O0.keep Kc36 (fun x hx => nomatch hx)
    have N36 := Fr.app N0 N36q
    refine Goes.via (fun t k => st36.trans k) ?_
    show Goes p e below (T36.setTop (mkF m 22 #[.val (.int p1), .val (.int p2), .val (.int p3), .val (.int p4), .val (.int p5), .unset, .unset, .unset, .unset, .unset] [(.ref r36)])) _
    refine Goes.via (fun t k => XS.astore X36.here hx rfl (hb hby at_22) rfl rfl (l' := #[.val (.int p1), .val (.int p2), .val (.int p3), .val (.int p4), .val (.int p5), .val (.ref r36), .unset, .unset, .unset, .unset]) rfl k) ?_
    show Goes p e below (T36.setTop (mkF m 24 #[.val (.int p1), .val (.int p2), .val (.int p3), .val (.int p4), .val (.int p5), .val (.ref r36), .unset, .unset, .unset, .unset] [])) _
    refine Goes.via (fun t k => XS.iloadN X36.here hx rfl (hb hby at_24) rfl k) ?_
    show Goes p e below (T36.setTop (mkF m 25 #[.val (.int p1), .val (.int p2), .val (.int p3), .val (.int p4), .val (.int p5), .val (.ref r36), .unset, .unset, .unset, .unset] [(.int p3)])) _
    refine Goes.via (fun t k => XS.iconst X36.here hx rfl (hb hby at_25) k) ?_
    show Goes p e below (T36.setTop (mkF m 26 #[.val (.int p1), .val (.int p2), .val (.int p3), .val (.int p4), .val (.int p5), .val (.ref r36), .unset, .unset, .unset, .unset] [(.int (3 : Int32)), (.int p3)])) _
    refine Goes.via (fun t k => XS.iand X36.here hx rfl (hb hby at_26) rfl k) ?_
    show Goes p e below (T36.setTop (mkF m 27 #[.val (.int p1), .val (.int p2), .val (.int p3), .val (.int p4), .val (.int p5), .val (.ref r36), .unset, .unset, .unset, .unset] [(.int (p3 &&& (3 : Int32)))])) _
    rcases own_len p3 with hlB | hlB | hlB | hlB
    · rw [hlB]
      show Goes p e below (T36.setTop (mkF m 27 #[.val (.int p1), .val (.int p2), .val (.int p3), .val (.int p4), .val (.int p5), .val (.ref r36), .unset, .unset, .unset, .unset] [(.int (0 : Int32))])) _
      refine Goes.via (fun t k => XS.istore X36.here hx rfl (hb hby at_27) rfl (l' := #[.val (.int p1), .val (.int p2), .val (.int p3), .val (.int p4), .val (.int p5), .val (.ref r36), .val (.int (0 : Int32)), .unset, .unset, .unset]) rfl k) ?_
      show Goes p e below (T36.setTop (mkF m 29 #[.val (.int p1), .val (.int p2), .val (.int p3), .val (.int p4), .val (.int p5), .val (.ref r36), .val (.int (0 : Int32)), .unset, .unset, .unset] [])) _
      refine Goes.via (fun t k => XS.iload X36.here hx rfl (hb hby at_29) rfl k) ?_
      show Goes p e below (T36.setTop (mkF m 31 #[.val (.int p1), .val (.int p2), .val (.int p3), .val (.int p4), .val (.int p5), .val (.ref r36), .val (.int (0 : Int32)), .unset, .unset, .unset] [(.int (0 : Int32))])) _
      refine Goes.via (fun t k => XS.iloadN X36.here hx rfl (hb hby at_31) rfl k) ?_
      show Goes p e below (T36.setTop (mkF m 32 #[.val (.int p1), .val (.int p2), .val (.int p3), .val (.int p4), .val (.int p5), .val (.ref r36), .val (.int (0 : Int32)), .unset, .unset, .unset] [(.int p4), (.int (0 : Int32))])) _
      refine Goes.via (fun t k => XS.iload X36.here hx rfl (hb hby at_32) rfl k) ?_
      show Goes p e below (T36.setTop (mkF m 34 #[.val (.int p1), .val (.int p2), .val (.int p3), .val (.int p4), .val (.int p5), .val (.ref r36), .val (.int (0 : Int32)), .unset, .unset, .unset] [(.int p5), (.int p4), (.int (0 : Int32))])) _
      refine Goes.via (fun t k => XS.iloadN X36.here hx rfl (hb hby at_34) rfl k) ?_
      show Goes p e below (T36.setTop (mkF m 35 #[.val (.int p1), .val (.int p2), .val (.int p3), .val (.int p4), .val (.int p5), .val (.ref r36), .val (.int (0 : Int32)), .unset, .unset, .unset] [(.int p3), (.int p5), (.int p4), (.int (0 : Int32))])) _
      refine Goes.via (fun t k => XS.iconst X36.here hx rfl (hb hby at_35) k) ?_
      show Goes p e below (T36.setTop (mkF m 36 #[.val (.int p1), .val (.int p2), .val (.int p3), .val (.int p4), .val (.int p5), .val (.ref r36), .val (.int (0 : Int32)), .unset, .unset, .unset] [(.int (2 : Int32)), (.int p3), (.int p5), (.int p4), (.int (0 : Int32))])) _
      refine Goes.via (fun t k => XS.iushr X36.here hx rfl (hb hby at_36) rfl k) ?_
      show Goes p e below (T36.setTop (mkF m 37 #[.val (.int p1), .val (.int p2), .val (.int p3), .val (.int p4), .val (.int p5), .val (.ref r36), .val (.int (0 : Int32)), .unset, .unset, .unset] [(.int ((p3.toUInt32 >>> ((2 : Int32) &&& 31).toUInt32).toInt32)), (.int p5), (.int p4), (.int (0 : Int32))])) _
      refine Goes.via (fun t k => XS.iconst X36.here hx rfl (hb hby at_37) k) ?_
      show Goes p e below (T36.setTop (mkF m 38 #[.val (.int p1), .val (.int p2), .val (.int p3), .val (.int p4), .val (.int p5), .val (.ref r36), .val (.int (0 : Int32)), .unset, .unset, .unset] [(.int (1 : Int32)), (.int ((p3.toUInt32 >>> ((2 : Int32) &&& 31).toUInt32).toInt32)), (.int p5), (.int p4), (.int (0 : Int32))])) _
      refine Goes.via (fun t k => XS.iand X36.here hx rfl (hb hby at_38) rfl k) ?_
      show Goes p e below (T36.setTop (mkF m 39 #[.val (.int p1), .val (.int p2), .val (.int p3), .val (.int p4), .val (.int p5), .val (.ref r36), .val (.int (0 : Int32)), .unset, .unset, .unset] [(.int (((p3.toUInt32 >>> ((2 : Int32) &&& 31).toUInt32).toInt32) &&& (1 : Int32))), (.int p5), (.int p4), (.int (0 : Int32))])) _
      refine Goes.via (next := T36.setTop (mkF m 47 #[.val (.int p1), .val (.int p2), .val (.int p3), .val (.int p4), .val (.int p5), .val (.ref r36), .val (.int (0 : Int32)), .unset, .unset, .unset] [(.int (v0_47_1 p3)), (.int p5), (.int p4), (.int (0 : Int32))])) (fun t k => ?_) ?_
      · by_cases hc39_37 : (((p3.toUInt32 >>> ((2 : Int32) &&& 31).toUInt32).toInt32) &&& (1 : Int32)) = (0 : Int32)
        · refine XS.ifYes X36.here hx rfl (pc0 := 39) (pc' := 46) rfl (hb hby at_39) rfl ((if0 _ _).trans (teq hc39_37).1) (by decide) (by decide) ?_
          show Steps p.tables e below (T36.setTop (mkF m 46 #[.val (.int p1), .val (.int p2), .val (.int p3), .val (.int p4), .val (.int p5), .val (.ref r36), .val (.int (0 : Int32)), .unset, .unset, .unset] [(.int p5), (.int p4), (.int (0 : Int32))])) _
          refine XS.iconst X36.here hx rfl (hb hby at_46) ?_
          show Steps p.tables e below (T36.setTop (mkF m 47 #[.val (.int p1), .val (.int p2), .val (.int p3), .val (.int p4), .val (.int p5), .val (.ref r36), .val (.int (0 : Int32)), .unset, .unset, .unset] [(.int (0 : Int32)), (.int p5), (.int p4), (.int (0 : Int32))])) _
          simpa only [v0_47_1, if_pos hc39_37] using k
        · refine XS.ifNo X36.here hx rfl (hb hby at_39) rfl ((if0 _ _).trans (feq hc39_37).1) ?_
          show Steps p.tables e below (T36.setTop (mkF m 42 #[.val (.int p1), .val (.int p2), .val (.int p3), .val (.int p4), .val (.int p5), .val (.ref r36), .val (.int (0 : Int32)), .unset, .unset, .unset] [(.int p5), (.int p4), (.int (0 : Int32))])) _
          refine XS.iconst X36.here hx rfl (hb hby at_42) ?_
          show Steps p.tables e below (T36.setTop (mkF m 43 #[.val (.int p1), .val (.int p2), .val (.int p3), .val (.int p4), .val (.int p5), .val (.ref r36), .val (.int (0 : Int32)), .unset, .unset, .unset] [(.int (1 : Int32)), (.int p5), (.int p4), (.int (0 : Int32))])) _
          refine XS.goto X36.here hx rfl (pc0 := 43) (pc' := 47) rfl (hb hby at_43) (by decide) (by decide) ?_
          show Steps p.tables e below (T36.setTop (mkF m 47 #[.val (.int p1), .val (.int p2), .val (.int p3), .val (.int p4), .val (.int p5), .val (.ref r36), .val (.int (0 : Int32)), .unset, .unset, .unset] [(.int (1 : Int32)), (.int p5), (.int p4), (.int (0 : Int32))])) _
          simpa only [v0_47_1, if_neg hc39_37] using k
      show Goes p e below (T36.setTop (mkF m 47 #[.val (.int p1), .val (.int p2), .val (.int p3), .val (.int p4), .val (.int p5), .val (.ref r36), .val (.int (0 : Int32)), .unset, .unset, .unset] [(.int (v0_47_1 p3)), (.int p5), (.int p4), (.int (0 : Int32))])) _
      obtain ⟨Lw38, X38w, N38w⟩ := ownPack X36 N36
      obtain ⟨_, _, ⟨T39, L39, k39, n39⟩, -, X39, ⟨Lc39, hQ39, l39, y39, z39⟩, st39⟩ := Jvm.LawKit.callS X38w hx (y := (⟨"cascabel/model/selector/TypeSelectorIsUniversalPinLaw", "pick", "(IIIZ)Ljava/lang/String;"⟩ : MethodName)) hown (mvT hZ (hw _ (List.mem_of_getElem? (i := 0) rfl))) (mvT hZ (hw _ (List.mem_of_getElem? (i := 1) rfl))) (mvT hZ (hw _ (List.mem_of_getElem? (i := 2) rfl))) (mvT hZ (hw _ (List.mem_of_getElem? (i := 3) rfl))) (by decide) (backOf (W := 0) (rm1_0 l Z a0 hw [] p4 p5 (v0_47_1 p3)  T36.heap n0 Z36 ) hZ (hw _ (List.mem_of_getElem? (i := 3) rfl)) (hw _ (List.mem_of_getElem? (i := 2) rfl)) (by decide) (by decide)) (g := (mkF m 47 #[.val (.int p1), .val (.int p2), .val (.int p3), .val (.int p4), .val (.int p5), .val (.ref r36), .val (.int (0 : Int32)), .unset, .unset, .unset] [(.int (v0_47_1 p3)), (.int p5), (.int p4), (.int (0 : Int32))])) rfl (by rw [hml]; rfl) (argsL := [(.int (0 : Int32)), (.int p4), (.int p5), (.int (v0_47_1 p3))]) (rest := []) (lenOf pd_0_0 rfl) rfl (by show 2 * 0 + _ ≤ _; exact Nat.le_of_eq rfl) (hb hby at_47) (fun _ _ => ⟨rfl, rfl, (by decide : 2 + 0 ≤ _), (by decide : 4 + 0 ≤ _)⟩)
      dsimp only [Pt.U, Pt.locs, Pt.cells, Pt.slots] at X39 l39 y39 z39 st39 hQ39
      subst l39 y39 z39
      obtain ⟨rfl, N39q, er39⟩ := hQ39
      have e39 : T39.heap = T36.heap := er39
      have N39 := Fr.app N38w N39q
      refine Goes.via st39 ?_
      show Goes p e below (T39.setTop (mkF m 50 #[.val (.int p1), .val (.int p2), .val (.int p3), .val (.int p4), .val (.int p5), .val (.ref r36), .val (.int (0 : Int32)), .unset, .unset, .unset] [.null])) _
      refine Goes.via (fun t k => XS.astore X39.here hx rfl (hb hby at_50) rfl rfl (l' := #[.val (.int p1), .val (.int p2), .val (.int p3), .val (.int p4), .val (.int p5), .val (.ref r36), .val (.int (0 : Int32)), .val .null, .unset, .unset]) rfl k) ?_
      show Goes p e below (T39.setTop (mkF m 52 #[.val (.int p1), .val (.int p2), .val (.int p3), .val (.int p4), .val (.int p5), .val (.ref r36), .val (.int (0 : Int32)), .val .null, .unset, .unset] [])) _
      obtain ⟨T40, h40, X40, e40, E40, A40, D40, -, st40⟩ := newO X39 hx hZ hown (hw _ (List.mem_of_getElem? (i := 38) rfl)) (hw _ (List.mem_of_getElem? (i := 39) rfl)) (hw _ (List.mem_of_getElem? (i := 40) rfl)) e39 (g := (mkF m 52 #[.val (.int p1), .val (.int p2), .val (.int p3), .val (.int p4), .val (.int p5), .val (.ref r36), .val (.int (0 : Int32)), .val .null, .unset, .unset] [])) rfl (hb hby at_52) (by decide) (by decide)
      obtain ⟨b40, g40⟩ : ∃ z, z = T36.heap.size := ⟨_, rfl⟩
      rw [← g40] at A40 D40 st40
      have ge_b40 : n0 ≤ b40 := Nat.le_trans Z36 (Nat.le_of_eq g40.symm)
      have sz_b40 : h0.size ≤ b40 := Nat.le_trans K36.1 (Nat.le_of_eq g40.symm)
      have K40 : Keep h0 h40 [] := K36.ext E40
      have Z40 : n0 ≤ h40.size := Nat.le_trans Z36 E40.1
      have O40 := O36.ext E40
      have hk := Nat.le_trans hk E40.1
      have F40_offset : Fld Z h40 b40 "cascabel/model/selector/TypeSelector" "offset" "I" (.int (0 : Int32)) := D40 (Or.inr (hw _ (List.mem_of_getElem? (i := 51) rfl))) (ty := .int) (by decide)
      have F40_namespace : Fld Z h40 b40 "cascabel/model/selector/TypeSelector" "namespace" "Ljava/lang/String;" .null := D40 (Or.inr (hw _ (List.mem_of_getElem? (i := 53) rfl))) (ty := (.object "java/lang/String")) (by decide)
      have F40_name : Fld Z h40 b40 "cascabel/model/selector/TypeSelector" "name" "Ljava/lang/String;" .null := D40 (Or.inr (hw _ (List.mem_of_getElem? (i := 55) rfl))) (ty := (.object "java/lang/String")) (by decide)
      refine Goes.via st40 ?_
      show Goes p e below (T40.setTop (mkF m 55 #[.val (.int p1), .val (.int p2), .val (.int p3), .val (.int p4), .val (.int p5), .val (.ref r36), .val (.int (0 : Int32)), .val .null, .unset, .unset] [(.ref b40)])) _
      refine Goes.via (fun t k => XS.dup X40.here hx rfl (hb hby at_55) rfl rfl k) ?_
      show Goes p e below (T40.setTop (mkF m 56 #[.val (.int p1), .val (.int p2), .val (.int p3), .val (.int p4), .val (.int p5), .val (.ref r36), .val (.int (0 : Int32)), .val .null, .unset, .unset] [(.ref b40), (.ref b40)])) _
      refine Goes.via (fun t k => XS.iloadN X40.here hx rfl (hb hby at_56) rfl k) ?_
      show Goes p e below (T40.setTop (mkF m 57 #[.val (.int p1), .val (.int p2), .val (.int p3), .val (.int p4), .val (.int p5), .val (.ref r36), .val (.int (0 : Int32)), .val .null, .unset, .unset] [(.int p1), (.ref b40), (.ref b40)])) _
      refine Goes.via (fun t k => XS.aload X40.here hx rfl (hb hby at_57) rfl rfl k) ?_
      show Goes p e below (T40.setTop (mkF m 59 #[.val (.int p1), .val (.int p2), .val (.int p3), .val (.int p4), .val (.int p5), .val (.ref r36), .val (.int (0 : Int32)), .val .null, .unset, .unset] [(.ref r36), (.int p1), (.ref b40), (.ref b40)])) _
      refine Goes.via (fun t k => XS.aload X40.here hx rfl (hb hby at_59) rfl rfl k) ?_
      show Goes p e below (T40.setTop (mkF m 61 #[.val (.int p1), .val (.int p2), .val (.int p3), .val (.int p4), .val (.int p5), .val (.ref r36), .val (.int (0 : Int32)), .val .null, .unset, .unset] [.null, (.ref r36), (.int p1), (.ref b40), (.ref b40)])) _
      obtain ⟨Lw41, X41w, N41w⟩ := ownPack X40 N39
      obtain ⟨_, _, ⟨T42, L42, k42, n42⟩, -, X42, ⟨Lc42, hQ42, l42, y42, z42⟩, st42⟩ := X41w.specialBack hx (y := (⟨"cascabel/model/selector/TypeSelector", "<init>", "(ILjava/lang/String;Ljava/lang/String;)V"⟩ : MethodName)) rfl hown (mvT hZ (hw _ (List.mem_of_getElem? (i := 41) rfl))) (mvT hZ (hw _ (List.mem_of_getElem? (i := 42) rfl))) (mvT hZ (hw _ (List.mem_of_getElem? (i := 43) rfl))) (by decide) (backOf (W := 1) (rm8_10 l Z a0 hw [] b40 p1 r36  h40 n0 Z40 A40 F40_offset F40_namespace F40_name ge_b40) hZ (hw _ (List.mem_of_getElem? (i := 43) rfl)) (hw _ (List.mem_of_getElem? (i := 40) rfl)) (by decide) (by decide)) (g := (mkF m 61 #[.val (.int p1), .val (.int p2), .val (.int p3), .val (.int p4), .val (.int p5), .val (.ref r36), .val (.int (0 : Int32)), .val .null, .unset, .unset] [.null, (.ref r36), (.int p1), (.ref b40), (.ref b40)])) rfl (by rw [hml]; rfl) (Steps.refl _) (a := b40) (argsL := [(.int p1), (.ref r36), .null]) (rest := [(.ref b40)]) (lenOf pd_0_1 rfl) rfl (by show 2 * 0 + _ ≤ _; exact Nat.le_of_eq rfl) (hb hby at_61) (fun _ _ => ⟨rfl, e40, (by decide : 3 + 0 ≤ _), (by decide : 7 + 0 ≤ _)⟩)
      dsimp only [Pt.U, Pt.locs, Pt.cells, Pt.slots] at X42 l42 y42 z42 st42 hQ42
      subst l42 y42 z42
      obtain ⟨rfl, N42q, Kc42, Ec42, Fn42⟩ := hQ42
      have F42_38 := A40.keep Kc42
      have K42 : Keep h0 T42.heap [] := K40.trans Kc42 (fun x hx => by cases List.mem_singleton.mp hx; exact Or.inr sz_b40)
      have Z42 : n0 ≤ T42.heap.size := Nat.le_trans Z40 Kc42.1
      have O42 := O40.keep Kc42 (fun x hx => by cases List.mem_singleton.mp hx; exact ge_b40)
      have hk := Nat.le_trans hk Kc42.1
      have N42 := Fr.app N41w N42q
      refine Goes.via (fun t k => st42.trans k) ?_
      show Goes p e below (T42.setTop (mkF m 64 #[.val (.int p1), .val (.int p2), .val (.int p3), .val (.int p4), .val (.int p5), .val (.ref r36), .val (.int (0 : Int32)), .val .null, .unset, .unset] [(.ref b40)])) _
      refine Goes.via (fun t k => XS.astore X42.here hx rfl (hb hby at_64) rfl rfl (l' := #[.val (.int p1), .val (.int p2), .val (.int p3), .val (.int p4), .val (.int p5), .val (.ref r36), .val (.int (0 : Int32)), .val .null, .val (.ref b40), .unset]) rfl k) ?_
      show Goes p e below (T42.setTop (mkF m 66 #[.val (.int p1), .val (.int p2), .val (.int p3), .val (.int p4), .val (.int p5), .val (.ref r36), .val (.int (0 : Int32)), .val .null, .val (.ref b40), .unset] [])) _
      refine Goes.via (fun t k => XS.iload X42.here hx rfl (hb hby at_66) rfl k) ?_
      show Goes p e below (T42.setTop (mkF m 68 #[.val (.int p1), .val (.int p2), .val (.int p3), .val (.int p4), .val (.int p5), .val (.ref r36), .val (.int (0 : Int32)), .val .null, .val (.ref b40), .unset] [(.int (0 : Int32))])) _
      refine Goes.via (fun t k => XS.ifNo X42.here hx rfl (hb hby at_68) rfl ((if0 _ _).trans (teq (show (0 : Int32) = (0 : Int32) from rfl)).2) k) ?_
      show Goes p e below (T42.setTop (mkF m 71 #[.val (.int p1), .val (.int p2), .val (.int p3), .val (.int p4), .val (.int p5), .val (.ref r36), .val (.int (0 : Int32)), .val .null, .val (.ref b40), .unset] [])) _
      refine Goes.via (fun t k => XS.iconst X42.here hx rfl (hb hby at_71) k) ?_
      show Goes p e below (T42.setTop (mkF m 72 #[.val (.int p1), .val (.int p2), .val (.int p3), .val (.int p4), .val (.int p5), .val (.ref r36), .val (.int (0 : Int32)), .val .null, .val (.ref b40), .unset] [(.int (1 : Int32))])) _
      refine Goes.via (fun t k => XS.goto X42.here hx rfl (pc0 := 72) (pc' := 76) rfl (hb hby at_72) (by decide) (by decide) k) ?_
      show Goes p e below (T42.setTop (mkF m 76 #[.val (.int p1), .val (.int p2), .val (.int p3), .val (.int p4), .val (.int p5), .val (.ref r36), .val (.int (0 : Int32)), .val .null, .val (.ref b40), .unset] [(.int (1 : Int32))])) _
      refine Goes.via (fun t k => XS.istore X42.here hx rfl (hb hby at_76) rfl (l' := #[.val (.int p1), .val (.int p2), .val (.int p3), .val (.int p4), .val (.int p5), .val (.ref r36), .val (.int (0 : Int32)), .val .null, .val (.ref b40), .val (.int (1 : Int32))]) rfl k) ?_
      show Goes p e below (T42.setTop (mkF m 78 #[.val (.int p1), .val (.int p2), .val (.int p3), .val (.int p4), .val (.int p5), .val (.ref r36), .val (.int (0 : Int32)), .val .null, .val (.ref b40), .val (.int (1 : Int32))] [])) _
      refine Goes.via (fun t k => XS.aload X42.here hx rfl (hb hby at_78) rfl rfl k) ?_
      show Goes p e below (T42.setTop (mkF m 80 #[.val (.int p1), .val (.int p2), .val (.int p3), .val (.int p4), .val (.int p5), .val (.ref r36), .val (.int (0 : Int32)), .val .null, .val (.ref b40), .val (.int (1 : Int32))] [(.ref b40)])) _
      try clear Ec42; try clear Kc42; try clear N42q; try clear st42; try clear z42; try clear y42; try clear l42; try clear hQ42; try clear Lc42; try clear n42; try clear k42; try clear L42
      try clear N41w; try clear X41w; try clear Lw41; try clear F40_name; try clear F40_namespace; try clear F40_offset; try clear O40; try clear Z40; try clear K40; try clear size; try clear g40; try clear st40
      try clear D40; try clear A40; try clear E40; try clear e40; try clear X40; try clear h40; try clear T40; try clear N39; try clear e39; try clear er39; try clear N39q; try clear st39
      try clear z39; try clear y39; try clear l39; try clear hQ39; try clear Lc39; try clear X39; try clear n39; try clear k39; try clear L39; try clear T39; try clear N38w; try clear X38w
      try clear Lw38; try clear N36; try clear O36; try clear Z36; try clear K36; try clear Kc36; try clear N36q; try clear hown36; try clear hZ36; try clear hS36; try clear X36f; try clear st36
      try clear z36; try clear y36; try clear l36; try clear hQ36; try clear Lc36; try clear sg36; try clear S36; try clear X36; try clear n36; try clear k36; try clear L36; try clear T36
      obtain ⟨Lw43, X43w, N43w⟩ := ownPack X42 N42
      obtain ⟨cq44, kq44, q44a, q44b, q44c⟩ := isOf hZ rfl F42_38
      obtain ⟨_, _, ⟨T44, L44, k44, n44⟩, -, X44, ⟨Lc44, hQ44, l44, y44, z44⟩, st44⟩ := X43w.virtualBack hx (y := (⟨"cascabel/model/selector/TypeSelector", "isUniversal", "()Z"⟩ : MethodName)) (z := (⟨"cascabel/model/selector/TypeSelector", "isUniversal", "()Z"⟩ : MethodName)) hown (mvT hZ (hw _ (List.mem_of_getElem? (i := 56) rfl))) (mvT hZ (hw _ (List.mem_of_getElem? (i := 57) rfl))) (notFace_of_selects (args := #[]) (mvT hZ (hw _ (List.mem_of_getElem? (i := 59) rfl)))) (mvT hZ (hw _ (List.mem_of_getElem? (i := 59) rfl))) (mvT hZ (hw _ (List.mem_of_getElem? (i := 58) rfl))) (by decide) (backOf (W := 0) (rm10_0 l Z a0 hw [] b40  T42.heap n0 Z42 Fn42) hZ (hw _ (List.mem_of_getElem? (i := 60) rfl)) (hw _ (List.mem_of_getElem? (i := 40) rfl)) (by decide) (by decide)) q44a q44c (g := (mkF m 80 #[.val (.int p1), .val (.int p2), .val (.int p3), .val (.int p4), .val (.int p5), .val (.ref r36), .val (.int (0 : Int32)), .val .null, .val (.ref b40), .val (.int (1 : Int32))] [(.ref b40)])) rfl (by rw [hml]; rfl) (Steps.refl _) (argsL := []) (rest := []) (lenOf pd_0_2 rfl) rfl (by show 2 * 0 + _ ≤ _; exact Nat.le_of_eq rfl) (hb hby at_80) (fun _ _ => ⟨rfl, rfl, (by decide : 3 + 0 ≤ _), (by decide : 7 + 0 ≤ _)⟩)
      dsimp only [Pt.U, Pt.locs, Pt.cells, Pt.slots] at X44 l44 y44 z44 st44 hQ44
      subst l44 y44 z44
      obtain ⟨rfl, N44q, er44⟩ := hQ44
      have e44 : T44.heap = T42.heap := er44
      have N44 := Fr.app N43w N44q
      refine Goes.via (fun t k => st44.trans k) ?_
      show Goes p e below (T44.setTop (mkF m 83 #[.val (.int p1), .val (.int p2), .val (.int p3), .val (.int p4), .val (.int p5), .val (.ref r36), .val (.int (0 : Int32)), .val .null, .val (.ref b40), .val (.int (1 : Int32))] [(.int (1 : Int32))])) _
      refine Goes.via (fun t k => XS.iload X44.here hx rfl (hb hby at_83) rfl k) ?_
      show Goes p e below (T44.setTop (mkF m 85 #[.val (.int p1), .val (.int p2), .val (.int p3), .val (.int p4), .val (.int p5), .val (.ref r36), .val (.int (0 : Int32)), .val .null, .val (.ref b40), .val (.int (1 : Int32))] [(.int (1 : Int32)), (.int (1 : Int32))])) _
      refine Goes.via (fun t k => XS.icmpNo X44.here hx rfl (hb hby at_85) rfl (teq (show (1 : Int32) = (1 : Int32) from rfl)).2 k) ?_
      show Goes p e below (T44.setTop (mkF m 88 #[.val (.int p1), .val (.int p2), .val (.int p3), .val (.int p4), .val (.int p5), .val (.ref r36), .val (.int (0 : Int32)), .val .null, .val (.ref b40), .val (.int (1 : Int32))] [])) _
      refine Goes.via (fun t k => XS.iconst X44.here hx rfl (hb hby at_88) k) ?_
      show Goes p e below (T44.setTop (mkF m 89 #[.val (.int p1), .val (.int p2), .val (.int p3), .val (.int p4), .val (.int p5), .val (.ref r36), .val (.int (0 : Int32)), .val .null, .val (.ref b40), .val (.int (1 : Int32))] [(.int (1 : Int32))])) _
      refine Goes.via (fun t k => XS.goto X44.here hx rfl (pc0 := 89) (pc' := 93) rfl (hb hby at_89) (by decide) (by decide) k) ?_
      show Goes p e below (T44.setTop (mkF m 93 #[.val (.int p1), .val (.int p2), .val (.int p3), .val (.int p4), .val (.int p5), .val (.ref r36), .val (.int (0 : Int32)), .val .null, .val (.ref b40), .val (.int (1 : Int32))] [(.int (1 : Int32))])) _
      obtain ⟨fs, hr, hrun, hended, hRE⟩ := X44.leaveW hS (by rw [e44]; exact hk) (v := some (.int (1 : Int32))) (fun h => by rw [Bd.returns] at h; cases h)
      refine ⟨_, _, ?_, hrun, hended, _, _, rfl, ?_, hRE.1, hRE.2.1, hRE.2.2.1, hRE.2.2.2.mono (by decide) (by decide)⟩
      · exact retN X44 hx (t := .boolean) Bd.returns (by simp) (hb hby at_93) hr
      · show Q0 Z  h0 n0 _ T44.heap _ _
        rw [e44]
        exact ⟨rfl, N44⟩
    · rw [hlB]
      show Goes p e below (T36.setTop (mkF m 27 #[.val (.int p1), .val (.int p2), .val (.int p3), .val (.int p4), .val (.int p5), .val (.ref r36), .unset, .unset, .unset, .unset] [(.int (1 : Int32))])) _
      refine Goes.via (fun t k => XS.istore X36.here hx rfl (hb hby at_27) rfl (l' := #[.val (.int p1), .val (.int p2), .val (.int p3), .val (.int p4), .val (.int p5), .val (.ref r36), .val (.int (1 : Int32)), .unset, .unset, .unset]) rfl k) ?_
      show Goes p e below (T36.setTop (mkF m 29 #[.val (.int p1), .val (.int p2), .val (.int p3), .val (.int p4), .val (.int p5), .val (.ref r36), .val (.int (1 : Int32)), .unset, .unset, .unset] [])) _
      refine Goes.via (fun t k => XS.iload X36.here hx rfl (hb hby at_29) rfl k) ?_
      show Goes p e below (T36.setTop (mkF m 31 #[.val (.int p1), .val (.int p2), .val (.int p3), .val (.int p4), .val (.int p5), .val (.ref r36), .val (.int (1 : Int32)), .unset, .unset, .unset] [(.int (1 : Int32))])) _
      refine Goes.via (fun t k => XS.iloadN X36.here hx rfl (hb hby at_31) rfl k) ?_
      show Goes p e below (T36.setTop (mkF m 32 #[.val (.int p1), .val (.int p2), .val (.int p3), .val (.int p4), .val (.int p5), .val (.ref r36), .val (.int (1 : Int32)), .unset, .unset, .unset] [(.int p4), (.int (1 : Int32))])) _
      refine Goes.via (fun t k => XS.iload X36.here hx rfl (hb hby at_32) rfl k) ?_
      show Goes p e below (T36.setTop (mkF m 34 #[.val (.int p1), .val (.int p2), .val (.int p3), .val (.int p4), .val (.int p5), .val (.ref r36), .val (.int (1 : Int32)), .unset, .unset, .unset] [(.int p5), (.int p4), (.int (1 : Int32))])) _
      refine Goes.via (fun t k => XS.iloadN X36.here hx rfl (hb hby at_34) rfl k) ?_
      show Goes p e below (T36.setTop (mkF m 35 #[.val (.int p1), .val (.int p2), .val (.int p3), .val (.int p4), .val (.int p5), .val (.ref r36), .val (.int (1 : Int32)), .unset, .unset, .unset] [(.int p3), (.int p5), (.int p4), (.int (1 : Int32))])) _
      refine Goes.via (fun t k => XS.iconst X36.here hx rfl (hb hby at_35) k) ?_
      show Goes p e below (T36.setTop (mkF m 36 #[.val (.int p1), .val (.int p2), .val (.int p3), .val (.int p4), .val (.int p5), .val (.ref r36), .val (.int (1 : Int32)), .unset, .unset, .unset] [(.int (2 : Int32)), (.int p3), (.int p5), (.int p4), (.int (1 : Int32))])) _
      refine Goes.via (fun t k => XS.iushr X36.here hx rfl (hb hby at_36) rfl k) ?_
      show Goes p e below (T36.setTop (mkF m 37 #[.val (.int p1), .val (.int p2), .val (.int p3), .val (.int p4), .val (.int p5), .val (.ref r36), .val (.int (1 : Int32)), .unset, .unset, .unset] [(.int ((p3.toUInt32 >>> ((2 : Int32) &&& 31).toUInt32).toInt32)), (.int p5), (.int p4), (.int (1 : Int32))])) _
      refine Goes.via (fun t k => XS.iconst X36.here hx rfl (hb hby at_37) k) ?_
      show Goes p e below (T36.setTop (mkF m 38 #[.val (.int p1), .val (.int p2), .val (.int p3), .val (.int p4), .val (.int p5), .val (.ref r36), .val (.int (1 : Int32)), .unset, .unset, .unset] [(.int (1 : Int32)), (.int ((p3.toUInt32 >>> ((2 : Int32) &&& 31).toUInt32).toInt32)), (.int p5), (.int p4), (.int (1 : Int32))])) _
      refine Goes.via (fun t k => XS.iand X36.here hx rfl (hb hby at_38) rfl k) ?_
      show Goes p e below (T36.setTop (mkF m 39 #[.val (.int p1), .val (.int p2), .val (.int p3), .val (.int p4), .val (.int p5), .val (.ref r36), .val (.int (1 : Int32)), .unset, .unset, .unset] [(.int (((p3.toUInt32 >>> ((2 : Int32) &&& 31).toUInt32).toInt32) &&& (1 : Int32))), (.int p5), (.int p4), (.int (1 : Int32))])) _
      refine Goes.via (next := T36.setTop (mkF m 47 #[.val (.int p1), .val (.int p2), .val (.int p3), .val (.int p4), .val (.int p5), .val (.ref r36), .val (.int (1 : Int32)), .unset, .unset, .unset] [(.int (v0_47_1 p3)), (.int p5), (.int p4), (.int (1 : Int32))])) (fun t k => ?_) ?_
      · by_cases hc39_45 : (((p3.toUInt32 >>> ((2 : Int32) &&& 31).toUInt32).toInt32) &&& (1 : Int32)) = (0 : Int32)
        · refine XS.ifYes X36.here hx rfl (pc0 := 39) (pc' := 46) rfl (hb hby at_39) rfl ((if0 _ _).trans (teq hc39_45).1) (by decide) (by decide) ?_
          show Steps p.tables e below (T36.setTop (mkF m 46 #[.val (.int p1), .val (.int p2), .val (.int p3), .val (.int p4), .val (.int p5), .val (.ref r36), .val (.int (1 : Int32)), .unset, .unset, .unset] [(.int p5), (.int p4), (.int (1 : Int32))])) _
          refine XS.iconst X36.here hx rfl (hb hby at_46) ?_
          show Steps p.tables e below (T36.setTop (mkF m 47 #[.val (.int p1), .val (.int p2), .val (.int p3), .val (.int p4), .val (.int p5), .val (.ref r36), .val (.int (1 : Int32)), .unset, .unset, .unset] [(.int (0 : Int32)), (.int p5), (.int p4), (.int (1 : Int32))])) _
          simpa only [v0_47_1, if_pos hc39_45] using k
        · refine XS.ifNo X36.here hx rfl (hb hby at_39) rfl ((if0 _ _).trans (feq hc39_45).1) ?_
          show Steps p.tables e below (T36.setTop (mkF m 42 #[.val (.int p1), .val (.int p2), .val (.int p3), .val (.int p4), .val (.int p5), .val (.ref r36), .val (.int (1 : Int32)), .unset, .unset, .unset] [(.int p5), (.int p4), (.int (1 : Int32))])) _
          refine XS.iconst X36.here hx rfl (hb hby at_42) ?_
          show Steps p.tables e below (T36.setTop (mkF m 43 #[.val (.int p1), .val (.int p2), .val (.int p3), .val (.int p4), .val (.int p5), .val (.ref r36), .val (.int (1 : Int32)), .unset, .unset, .unset] [(.int (1 : Int32)), (.int p5), (.int p4), (.int (1 : Int32))])) _
          refine XS.goto X36.here hx rfl (pc0 := 43) (pc' := 47) rfl (hb hby at_43) (by decide) (by decide) ?_
          show Steps p.tables e below (T36.setTop (mkF m 47 #[.val (.int p1), .val (.int p2), .val (.int p3), .val (.int p4), .val (.int p5), .val (.ref r36), .val (.int (1 : Int32)), .unset, .unset, .unset] [(.int (1 : Int32)), (.int p5), (.int p4), (.int (1 : Int32))])) _
          simpa only [v0_47_1, if_neg hc39_45] using k
      show Goes p e below (T36.setTop (mkF m 47 #[.val (.int p1), .val (.int p2), .val (.int p3), .val (.int p4), .val (.int p5), .val (.ref r36), .val (.int (1 : Int32)), .unset, .unset, .unset] [(.int (v0_47_1 p3)), (.int p5), (.int p4), (.int (1 : Int32))])) _
      obtain ⟨Lw46, X46w, N46w⟩ := ownPack X36 N36
      obtain ⟨_, _, ⟨T47, L47, k47, n47⟩, -, X47, S47, sg47, ⟨Lc47, hQ47, l47, y47, z47⟩, st47⟩ := callSS X46w hx (y := (⟨"cascabel/model/selector/TypeSelectorIsUniversalPinLaw", "pick", "(IIIZ)Ljava/lang/String;"⟩ : MethodName)) hown (mvT hZ (hw _ (List.mem_of_getElem? (i := 0) rfl))) (mvT hZ (hw _ (List.mem_of_getElem? (i := 1) rfl))) (mvT hZ (hw _ (List.mem_of_getElem? (i := 2) rfl))) (mvT hZ (hw _ (List.mem_of_getElem? (i := 3) rfl))) (by decide) (ownBackS (W := 0) (I := fun vm => True) (rm1_1 l Z a0 hw [] p4 p5 (v0_47_1 p3) w0 T36.heap n0 Z36 O36 St) hZ (fun _ _ => trivial) (hw _ (List.mem_of_getElem? (i := 3) rfl)) (hw _ (List.mem_of_getElem? (i := 2) rfl)) (by decide) (by decide)) (g := (mkF m 47 #[.val (.int p1), .val (.int p2), .val (.int p3), .val (.int p4), .val (.int p5), .val (.ref r36), .val (.int (1 : Int32)), .unset, .unset, .unset] [(.int (v0_47_1 p3)), (.int p5), (.int p4), (.int (1 : Int32))])) rfl (by rw [hml]; rfl) (argsL := [(.int (1 : Int32)), (.int p4), (.int p5), (.int (v0_47_1 p3))]) (rest := []) (lenOf pd_0_0 rfl) rfl (by show 2 * 0 + _ ≤ _; exact Nat.le_of_eq rfl) (hb hby at_47) (fun _ _ => ⟨rfl, rfl, (by decide : 2 + 2 ≤ _), (by decide : 4 + 4 ≤ _)⟩)
      dsimp only [Pt.U, Pt.locs, Pt.cells, Pt.slots] at X47 l47 y47 z47 st47 hQ47 S47 sg47
      subst l47 y47 z47
      obtain ⟨X47f, hS47, hZ47, hown47⟩ := rebS hS hk X47 S47 sg47 hZ hown
      have X47 := X47f
      have hS := hS47
      have hZ := hZ47
      have hown := hown47
      have hk : T47.heap.size ≤ T47.heap.size := Nat.le_refl _
      obtain ⟨r47, rfl, N47q, Kc47⟩ := hQ47
      have K47 : Keep h0 T47.heap [] := K36.trans Kc47 (fun x hx => nomatch hx)
      have Z47 : n0 ≤ T47.heap.size := Nat.le_trans Z36 Kc47.1
      have O47 := O36.keep Kc47 (fun x hx => nomatch hx)
      have N47 := Fr.app N46w N47q
      refine Goes.via (fun t k => st47.trans k) ?_
      show Goes p e below (T47.setTop (mkF m 50 #[.val (.int p1), .val (.int p2), .val (.int p3), .val (.int p4), .val (.int p5), .val (.ref r36), .val (.int (1 : Int32)), .unset, .unset, .unset] [(.ref r47)])) _
      refine Goes.via (fun t k => XS.astore X47.here hx rfl (hb hby at_50) rfl rfl (l' := #[.val (.int p1), .val (.int p2), .val (.int p3), .val (.int p4), .val (.int p5), .val (.ref r36), .val (.int (1 : Int32)), .val (.ref r47), .unset, .unset]) rfl k) ?_
      show Goes p e below (T47.setTop (mkF m 52 #[.val (.int p1), .val (.int p2), .val (.int p3), .val (.int p4), .val (.int p5), .val (.ref r36), .val (.int (1 : Int32)), .val (.ref r47), .unset, .unset] [])) _
      obtain ⟨T48, h48, X48, e48, E48, A48, D48, -, st48⟩ := newO X47 hx hZ hown (hw _ (List.mem_of_getElem? (i := 38) rfl)) (hw _ (List.mem_of_getElem? (i := 39) rfl)) (hw _ (List.mem_of_getElem? (i := 40) rfl)) rfl (g := (mkF m 52 #[.val (.int p1), .val (.int p2), .val (.int p3), .val (.int p4), .val (.int p5), .val (.ref r36), .val (.int (1 : Int32)), .val (.ref r47), .unset, .unset] [])) rfl (hb hby at_52) (by decide) (by decide)
      obtain ⟨b48, g48⟩ : ∃ z, z = T47.heap.size := ⟨_, rfl⟩
      rw [← g48] at A48 D48 st48
      have ge_b48 : n0 ≤ b48 := Nat.le_trans Z47 (Nat.le_of_eq g48.symm)
      have sz_b48 : h0.size ≤ b48 := Nat.le_trans K47.1 (Nat.le_of_eq g48.symm)
      have K48 : Keep h0 h48 [] := K47.ext E48
      have Z48 : n0 ≤ h48.size := Nat.le_trans Z47 E48.1
      have O48 := O47.ext E48
      have hk := Nat.le_trans hk E48.1
      have F48_offset : Fld Z h48 b48 "cascabel/model/selector/TypeSelector" "offset" "I" (.int (0 : Int32)) := D48 (Or.inr (hw _ (List.mem_of_getElem? (i := 51) rfl))) (ty := .int) (by decide)
      have F48_namespace : Fld Z h48 b48 "cascabel/model/selector/TypeSelector" "namespace" "Ljava/lang/String;" .null := D48 (Or.inr (hw _ (List.mem_of_getElem? (i := 53) rfl))) (ty := (.object "java/lang/String")) (by decide)
      have F48_name : Fld Z h48 b48 "cascabel/model/selector/TypeSelector" "name" "Ljava/lang/String;" .null := D48 (Or.inr (hw _ (List.mem_of_getElem? (i := 55) rfl))) (ty := (.object "java/lang/String")) (by decide)
      refine Goes.via st48 ?_
      show Goes p e below (T48.setTop (mkF m 55 #[.val (.int p1), .val (.int p2), .val (.int p3), .val (.int p4), .val (.int p5), .val (.ref r36), .val (.int (1 : Int32)), .val (.ref r47), .unset, .unset] [(.ref b48)])) _
      refine Goes.via (fun t k => XS.dup X48.here hx rfl (hb hby at_55) rfl rfl k) ?_
      show Goes p e below (T48.setTop (mkF m 56 #[.val (.int p1), .val (.int p2), .val (.int p3), .val (.int p4), .val (.int p5), .val (.ref r36), .val (.int (1 : Int32)), .val (.ref r47), .unset, .unset] [(.ref b48), (.ref b48)])) _
      refine Goes.via (fun t k => XS.iloadN X48.here hx rfl (hb hby at_56) rfl k) ?_
      show Goes p e below (T48.setTop (mkF m 57 #[.val (.int p1), .val (.int p2), .val (.int p3), .val (.int p4), .val (.int p5), .val (.ref r36), .val (.int (1 : Int32)), .val (.ref r47), .unset, .unset] [(.int p1), (.ref b48), (.ref b48)])) _
      refine Goes.via (fun t k => XS.aload X48.here hx rfl (hb hby at_57) rfl rfl k) ?_
      show Goes p e below (T48.setTop (mkF m 59 #[.val (.int p1), .val (.int p2), .val (.int p3), .val (.int p4), .val (.int p5), .val (.ref r36), .val (.int (1 : Int32)), .val (.ref r47), .unset, .unset] [(.ref r36), (.int p1), (.ref b48), (.ref b48)])) _
      refine Goes.via (fun t k => XS.aload X48.here hx rfl (hb hby at_59) rfl rfl k) ?_
      show Goes p e below (T48.setTop (mkF m 61 #[.val (.int p1), .val (.int p2), .val (.int p3), .val (.int p4), .val (.int p5), .val (.ref r36), .val (.int (1 : Int32)), .val (.ref r47), .unset, .unset] [(.ref r47), (.ref r36), (.int p1), (.ref b48), (.ref b48)])) _
      try clear size; try clear heap; try clear g48; try clear st48; try clear D48; try clear E48; try clear O47; try clear Z47; try clear K47; try clear Kc47; try clear N47q; try clear hown47
      try clear hZ47; try clear hS47; try clear X47f; try clear st47; try clear z47; try clear y47; try clear l47; try clear hQ47; try clear Lc47; try clear sg47; try clear S47; try clear X47
      try clear n47; try clear k47; try clear L47; try clear T47; try clear N46w; try clear X46w; try clear Lw46; try clear N36; try clear O36; try clear Z36; try clear K36; try clear Kc36
      try clear N36q; try clear hown36; try clear hZ36; try clear hS36; try clear X36f; try clear st36; try clear z36; try clear y36; try clear l36; try clear hQ36; try clear Lc36; try clear sg36
      try clear S36; try clear X36; try clear n36; try clear k36; try clear L36; try clear T36
      obtain ⟨Lw49, X49w, N49w⟩ := ownPack X48 N47
      obtain ⟨_, _, ⟨T50, L50, k50, n50⟩, -, X50, ⟨Lc50, hQ50, l50, y50, z50⟩, st50⟩ := X49w.specialBack hx (y := (⟨"cascabel/model/selector/TypeSelector", "<init>", "(ILjava/lang/String;Ljava/lang/String;)V"⟩ : MethodName)) rfl hown (mvT hZ (hw _ (List.mem_of_getElem? (i := 41) rfl))) (mvT hZ (hw _ (List.mem_of_getElem? (i := 42) rfl))) (mvT hZ (hw _ (List.mem_of_getElem? (i := 43) rfl))) (by decide) (backOf (W := 1) (rm8_11 l Z a0 hw [] b48 p1 r36 r47  h48 n0 Z48 A48 F48_offset F48_namespace F48_name ge_b48) hZ (hw _ (List.mem_of_getElem? (i := 43) rfl)) (hw _ (List.mem_of_getElem? (i := 40) rfl)) (by decide) (by decide)) (g := (mkF m 61 #[.val (.int p1), .val (.int p2), .val (.int p3), .val (.int p4), .val (.int p5), .val (.ref r36), .val (.int (1 : Int32)), .val (.ref r47), .unset, .unset] [(.ref r47), (.ref r36), (.int p1), (.ref b48), (.ref b48)])) rfl (by rw [hml]; rfl) (Steps.refl _) (a := b48) (argsL := [(.int p1), (.ref r36), (.ref r47)]) (rest := [(.ref b48)]) (lenOf pd_0_1 rfl) rfl (by show 2 * 0 + _ ≤ _; exact Nat.le_of_eq rfl) (hb hby at_61) (fun _ _ => ⟨rfl, e48, (by decide : 5 + 0 ≤ _), (by decide : 11 + 0 ≤ _)⟩)
      dsimp only [Pt.U, Pt.locs, Pt.cells, Pt.slots] at X50 l50 y50 z50 st50 hQ50
      subst l50 y50 z50
      obtain ⟨rfl, N50q, Kc50, Ec50, Fn50⟩ := hQ50
      have F50_51 := A48.keep Kc50
      have K50 : Keep h0 T50.heap [] := K48.trans Kc50 (fun x hx => by cases List.mem_singleton.mp hx; exact Or.inr sz_b48)
      have Z50 : n0 ≤ T50.heap.size := Nat.le_trans Z48 Kc50.1
      have O50 := O48.keep Kc50 (fun x hx => by cases List.mem_singleton.mp hx; exact ge_b48)
      have hk := Nat.le_trans hk Kc50.1
      have N50 := Fr.app N49w N50q
      refine Goes.via (fun t k => st50.trans k) ?_
      show Goes p e below (T50.setTop (mkF m 64 #[.val (.int p1), .val (.int p2), .val (.int p3), .val (.int p4), .val (.int p5), .val (.ref r36), .val (.int (1 : Int32)), .val (.ref r47), .unset, .unset] [(.ref b48)])) _
      refine Goes.via (fun t k => XS.astore X50.here hx rfl (hb hby at_64) rfl rfl (l' := #[.val (.int p1), .val (.int p2), .val (.int p3), .val (.int p4), .val (.int p5), .val (.ref r36), .val (.int (1 : Int32)), .val (.ref r47), .val (.ref b48), .unset]) rfl k) ?_
      show Goes p e below (T50.setTop (mkF m 66 #[.val (.int p1), .val (.int p2), .val (.int p3), .val (.int p4), .val (.int p5), .val (.ref r36), .val (.int (1 : Int32)), .val (.ref r47), .val (.ref b48), .unset] [])) _
      refine Goes.via (fun t k => XS.iload X50.here hx rfl (hb hby at_66) rfl k) ?_
      show Goes p e below (T50.setTop (mkF m 68 #[.val (.int p1), .val (.int p2), .val (.int p3), .val (.int p4), .val (.int p5), .val (.ref r36), .val (.int (1 : Int32)), .val (.ref r47), .val (.ref b48), .unset] [(.int (1 : Int32))])) _
      refine Goes.via (fun t k => XS.ifYes X50.here hx rfl (pc0 := 68) (pc' := 75) rfl (hb hby at_68) rfl ((if0 _ _).trans (feq (show ¬ ((1 : Int32) = (0 : Int32)) from (by decide))).2) (by decide) (by decide) k) ?_
      show Goes p e below (T50.setTop (mkF m 75 #[.val (.int p1), .val (.int p2), .val (.int p3), .val (.int p4), .val (.int p5), .val (.ref r36), .val (.int (1 : Int32)), .val (.ref r47), .val (.ref b48), .unset] [])) _
      refine Goes.via (fun t k => XS.iconst X50.here hx rfl (hb hby at_75) k) ?_
      show Goes p e below (T50.setTop (mkF m 76 #[.val (.int p1), .val (.int p2), .val (.int p3), .val (.int p4), .val (.int p5), .val (.ref r36), .val (.int (1 : Int32)), .val (.ref r47), .val (.ref b48), .unset] [(.int (0 : Int32))])) _
      refine Goes.via (fun t k => XS.istore X50.here hx rfl (hb hby at_76) rfl (l' := #[.val (.int p1), .val (.int p2), .val (.int p3), .val (.int p4), .val (.int p5), .val (.ref r36), .val (.int (1 : Int32)), .val (.ref r47), .val (.ref b48), .val (.int (0 : Int32))]) rfl k) ?_
      show Goes p e below (T50.setTop (mkF m 78 #[.val (.int p1), .val (.int p2), .val (.int p3), .val (.int p4), .val (.int p5), .val (.ref r36), .val (.int (1 : Int32)), .val (.ref r47), .val (.ref b48), .val (.int (0 : Int32))] [])) _
      refine Goes.via (fun t k => XS.aload X50.here hx rfl (hb hby at_78) rfl rfl k) ?_
      show Goes p e below (T50.setTop (mkF m 80 #[.val (.int p1), .val (.int p2), .val (.int p3), .val (.int p4), .val (.int p5), .val (.ref r36), .val (.int (1 : Int32)), .val (.ref r47), .val (.ref b48), .val (.int (0 : Int32))] [(.ref b48)])) _
      obtain ⟨Lw51, X51w, N51w⟩ := ownPack X50 N50
      obtain ⟨cq52, kq52, q52a, q52b, q52c⟩ := isOf hZ rfl F50_51
      obtain ⟨_, _, ⟨T52, L52, k52, n52⟩, -, X52, ⟨Lc52, hQ52, l52, y52, z52⟩, st52⟩ := X51w.virtualBack hx (y := (⟨"cascabel/model/selector/TypeSelector", "isUniversal", "()Z"⟩ : MethodName)) (z := (⟨"cascabel/model/selector/TypeSelector", "isUniversal", "()Z"⟩ : MethodName)) hown (mvT hZ (hw _ (List.mem_of_getElem? (i := 56) rfl))) (mvT hZ (hw _ (List.mem_of_getElem? (i := 57) rfl))) (notFace_of_selects (args := #[]) (mvT hZ (hw _ (List.mem_of_getElem? (i := 59) rfl)))) (mvT hZ (hw _ (List.mem_of_getElem? (i := 59) rfl))) (mvT hZ (hw _ (List.mem_of_getElem? (i := 58) rfl))) (by decide) (backOf (W := 0) (rm10_1 l Z a0 hw [] b48 r47 T50.heap n0 Z50 Fn50) hZ (hw _ (List.mem_of_getElem? (i := 60) rfl)) (hw _ (List.mem_of_getElem? (i := 40) rfl)) (by decide) (by decide)) q52a q52c (g := (mkF m 80 #[.val (.int p1), .val (.int p2), .val (.int p3), .val (.int p4), .val (.int p5), .val (.ref r36), .val (.int (1 : Int32)), .val (.ref r47), .val (.ref b48), .val (.int (0 : Int32))] [(.ref b48)])) rfl (by rw [hml]; rfl) (Steps.refl _) (argsL := []) (rest := []) (lenOf pd_0_2 rfl) rfl (by show 2 * 0 + _ ≤ _; exact Nat.le_of_eq rfl) (hb hby at_80) (fun _ _ => ⟨rfl, rfl, (by decide : 5 + 0 ≤ _), (by decide : 11 + 0 ≤ _)⟩)
      dsimp only [Pt.U, Pt.locs, Pt.cells, Pt.slots] at X52 l52 y52 z52 st52 hQ52
      subst l52 y52 z52
      obtain ⟨rfl, N52q, er52⟩ := hQ52
      have e52 : T52.heap = T50.heap := er52
      have N52 := Fr.app N51w N52q
      refine Goes.via (fun t k => st52.trans k) ?_
      show Goes p e below (T52.setTop (mkF m 83 #[.val (.int p1), .val (.int p2), .val (.int p3), .val (.int p4), .val (.int p5), .val (.ref r36), .val (.int (1 : Int32)), .val (.ref r47), .val (.ref b48), .val (.int (0 : Int32))] [(.int (0 : Int32))])) _
      refine Goes.via (fun t k => XS.iload X52.here hx rfl (hb hby at_83) rfl k) ?_
      show Goes p e below (T52.setTop (mkF m 85 #[.val (.int p1), .val (.int p2), .val (.int p3), .val (.int p4), .val (.int p5), .val (.ref r36), .val (.int (1 : Int32)), .val (.ref r47), .val (.ref b48), .val (.int (0 : Int32))] [(.int (0 : Int32)), (.int (0 : Int32))])) _
      refine Goes.via (fun t k => XS.icmpNo X52.here hx rfl (hb hby at_85) rfl (teq (show (0 : Int32) = (0 : Int32) from rfl)).2 k) ?_
      show Goes p e below (T52.setTop (mkF m 88 #[.val (.int p1), .val (.int p2), .val (.int p3), .val (.int p4), .val (.int p5), .val (.ref r36), .val (.int (1 : Int32)), .val (.ref r47), .val (.ref b48), .val (.int (0 : Int32))] [])) _
      refine Goes.via (fun t k => XS.iconst X52.here hx rfl (hb hby at_88) k) ?_
      show Goes p e below (T52.setTop (mkF m 89 #[.val (.int p1), .val (.int p2), .val (.int p3), .val (.int p4), .val (.int p5), .val (.ref r36), .val (.int (1 : Int32)), .val (.ref r47), .val (.ref b48), .val (.int (0 : Int32))] [(.int (1 : Int32))])) _
      refine Goes.via (fun t k => XS.goto X52.here hx rfl (pc0 := 89) (pc' := 93) rfl (hb hby at_89) (by decide) (by decide) k) ?_
      show Goes p e below (T52.setTop (mkF m 93 #[.val (.int p1), .val (.int p2), .val (.int p3), .val (.int p4), .val (.int p5), .val (.ref r36), .val (.int (1 : Int32)), .val (.ref r47), .val (.ref b48), .val (.int (0 : Int32))] [(.int (1 : Int32))])) _
      obtain ⟨fs, hr, hrun, hended, hRE⟩ := X52.leaveW hS (by rw [e52]; exact hk) (v := some (.int (1 : Int32))) (fun h => by rw [Bd.returns] at h; cases h)
      refine ⟨_, _, ?_, hrun, hended, _, _, rfl, ?_, hRE.1, hRE.2.1, hRE.2.2.1, hRE.2.2.2.mono (by decide) (by decide)⟩
      · exact retN X52 hx (t := .boolean) Bd.returns (by simp) (hb hby at_93) hr
      · show Q0 Z  h0 n0 _ T52.heap _ _
        rw [e52]
        exact ⟨rfl, N52⟩
    · rw [hlB]
      show Goes p e below (T36.setTop (mkF m 27 #[.val (.int p1), .val (.int p2), .val (.int p3), .val (.int p4), .val (.int p5), .val (.ref r36), .unset, .unset, .unset, .unset] [(.int (2 : Int32))])) _
      refine Goes.via (fun t k => XS.istore X36.here hx rfl (hb hby at_27) rfl (l' := #[.val (.int p1), .val (.int p2), .val (.int p3), .val (.int p4), .val (.int p5), .val (.ref r36), .val (.int (2 : Int32)), .unset, .unset, .unset]) rfl k) ?_
      show Goes p e below (T36.setTop (mkF m 29 #[.val (.int p1), .val (.int p2), .val (.int p3), .val (.int p4), .val (.int p5), .val (.ref r36), .val (.int (2 : Int32)), .unset, .unset, .unset] [])) _
      refine Goes.via (fun t k => XS.iload X36.here hx rfl (hb hby at_29) rfl k) ?_
      show Goes p e below (T36.setTop (mkF m 31 #[.val (.int p1), .val (.int p2), .val (.int p3), .val (.int p4), .val (.int p5), .val (.ref r36), .val (.int (2 : Int32)), .unset, .unset, .unset] [(.int (2 : Int32))])) _
      refine Goes.via (fun t k => XS.iloadN X36.here hx rfl (hb hby at_31) rfl k) ?_
      show Goes p e below (T36.setTop (mkF m 32 #[.val (.int p1), .val (.int p2), .val (.int p3), .val (.int p4), .val (.int p5), .val (.ref r36), .val (.int (2 : Int32)), .unset, .unset, .unset] [(.int p4), (.int (2 : Int32))])) _
      refine Goes.via (fun t k => XS.iload X36.here hx rfl (hb hby at_32) rfl k) ?_
      show Goes p e below (T36.setTop (mkF m 34 #[.val (.int p1), .val (.int p2), .val (.int p3), .val (.int p4), .val (.int p5), .val (.ref r36), .val (.int (2 : Int32)), .unset, .unset, .unset] [(.int p5), (.int p4), (.int (2 : Int32))])) _
      refine Goes.via (fun t k => XS.iloadN X36.here hx rfl (hb hby at_34) rfl k) ?_
      show Goes p e below (T36.setTop (mkF m 35 #[.val (.int p1), .val (.int p2), .val (.int p3), .val (.int p4), .val (.int p5), .val (.ref r36), .val (.int (2 : Int32)), .unset, .unset, .unset] [(.int p3), (.int p5), (.int p4), (.int (2 : Int32))])) _
      refine Goes.via (fun t k => XS.iconst X36.here hx rfl (hb hby at_35) k) ?_
      show Goes p e below (T36.setTop (mkF m 36 #[.val (.int p1), .val (.int p2), .val (.int p3), .val (.int p4), .val (.int p5), .val (.ref r36), .val (.int (2 : Int32)), .unset, .unset, .unset] [(.int (2 : Int32)), (.int p3), (.int p5), (.int p4), (.int (2 : Int32))])) _
      refine Goes.via (fun t k => XS.iushr X36.here hx rfl (hb hby at_36) rfl k) ?_
      show Goes p e below (T36.setTop (mkF m 37 #[.val (.int p1), .val (.int p2), .val (.int p3), .val (.int p4), .val (.int p5), .val (.ref r36), .val (.int (2 : Int32)), .unset, .unset, .unset] [(.int ((p3.toUInt32 >>> ((2 : Int32) &&& 31).toUInt32).toInt32)), (.int p5), (.int p4), (.int (2 : Int32))])) _
      refine Goes.via (fun t k => XS.iconst X36.here hx rfl (hb hby at_37) k) ?_
      show Goes p e below (T36.setTop (mkF m 38 #[.val (.int p1), .val (.int p2), .val (.int p3), .val (.int p4), .val (.int p5), .val (.ref r36), .val (.int (2 : Int32)), .unset, .unset, .unset] [(.int (1 : Int32)), (.int ((p3.toUInt32 >>> ((2 : Int32) &&& 31).toUInt32).toInt32)), (.int p5), (.int p4), (.int (2 : Int32))])) _
      refine Goes.via (fun t k => XS.iand X36.here hx rfl (hb hby at_38) rfl k) ?_
      show Goes p e below (T36.setTop (mkF m 39 #[.val (.int p1), .val (.int p2), .val (.int p3), .val (.int p4), .val (.int p5), .val (.ref r36), .val (.int (2 : Int32)), .unset, .unset, .unset] [(.int (((p3.toUInt32 >>> ((2 : Int32) &&& 31).toUInt32).toInt32) &&& (1 : Int32))), (.int p5), (.int p4), (.int (2 : Int32))])) _
      refine Goes.via (next := T36.setTop (mkF m 47 #[.val (.int p1), .val (.int p2), .val (.int p3), .val (.int p4), .val (.int p5), .val (.ref r36), .val (.int (2 : Int32)), .unset, .unset, .unset] [(.int (v0_47_1 p3)), (.int p5), (.int p4), (.int (2 : Int32))])) (fun t k => ?_) ?_
      · by_cases hc39_53 : (((p3.toUInt32 >>> ((2 : Int32) &&& 31).toUInt32).toInt32) &&& (1 : Int32)) = (0 : Int32)
        · refine XS.ifYes X36.here hx rfl (pc0 := 39) (pc' := 46) rfl (hb hby at_39) rfl ((if0 _ _).trans (teq hc39_53).1) (by decide) (by decide) ?_
          show Steps p.tables e below (T36.setTop (mkF m 46 #[.val (.int p1), .val (.int p2), .val (.int p3), .val (.int p4), .val (.int p5), .val (.ref r36), .val (.int (2 : Int32)), .unset, .unset, .unset] [(.int p5), (.int p4), (.int (2 : Int32))])) _
          refine XS.iconst X36.here hx rfl (hb hby at_46) ?_
          show Steps p.tables e below (T36.setTop (mkF m 47 #[.val (.int p1), .val (.int p2), .val (.int p3), .val (.int p4), .val (.int p5), .val (.ref r36), .val (.int (2 : Int32)), .unset, .unset, .unset] [(.int (0 : Int32)), (.int p5), (.int p4), (.int (2 : Int32))])) _
          simpa only [v0_47_1, if_pos hc39_53] using k
        · refine XS.ifNo X36.here hx rfl (hb hby at_39) rfl ((if0 _ _).trans (feq hc39_53).1) ?_
          show Steps p.tables e below (T36.setTop (mkF m 42 #[.val (.int p1), .val (.int p2), .val (.int p3), .val (.int p4), .val (.int p5), .val (.ref r36), .val (.int (2 : Int32)), .unset, .unset, .unset] [(.int p5), (.int p4), (.int (2 : Int32))])) _
          refine XS.iconst X36.here hx rfl (hb hby at_42) ?_
          show Steps p.tables e below (T36.setTop (mkF m 43 #[.val (.int p1), .val (.int p2), .val (.int p3), .val (.int p4), .val (.int p5), .val (.ref r36), .val (.int (2 : Int32)), .unset, .unset, .unset] [(.int (1 : Int32)), (.int p5), (.int p4), (.int (2 : Int32))])) _
          refine XS.goto X36.here hx rfl (pc0 := 43) (pc' := 47) rfl (hb hby at_43) (by decide) (by decide) ?_
          show Steps p.tables e below (T36.setTop (mkF m 47 #[.val (.int p1), .val (.int p2), .val (.int p3), .val (.int p4), .val (.int p5), .val (.ref r36), .val (.int (2 : Int32)), .unset, .unset, .unset] [(.int (1 : Int32)), (.int p5), (.int p4), (.int (2 : Int32))])) _
          simpa only [v0_47_1, if_neg hc39_53] using k
      show Goes p e below (T36.setTop (mkF m 47 #[.val (.int p1), .val (.int p2), .val (.int p3), .val (.int p4), .val (.int p5), .val (.ref r36), .val (.int (2 : Int32)), .unset, .unset, .unset] [(.int (v0_47_1 p3)), (.int p5), (.int p4), (.int (2 : Int32))])) _
      obtain ⟨Lw54, X54w, N54w⟩ := ownPack X36 N36
      obtain ⟨_, _, ⟨T55, L55, k55, n55⟩, -, X55, S55, sg55, ⟨Lc55, hQ55, l55, y55, z55⟩, st55⟩ := callSS X54w hx (y := (⟨"cascabel/model/selector/TypeSelectorIsUniversalPinLaw", "pick", "(IIIZ)Ljava/lang/String;"⟩ : MethodName)) hown (mvT hZ (hw _ (List.mem_of_getElem? (i := 0) rfl))) (mvT hZ (hw _ (List.mem_of_getElem? (i := 1) rfl))) (mvT hZ (hw _ (List.mem_of_getElem? (i := 2) rfl))) (mvT hZ (hw _ (List.mem_of_getElem? (i := 3) rfl))) (by decide) (ownBackS (W := 0) (I := fun vm => True) (rm1_2 l Z a0 hw [] p4 p5 (v0_47_1 p3) w0 T36.heap n0 Z36 O36 St) hZ (fun _ _ => trivial) (hw _ (List.mem_of_getElem? (i := 3) rfl)) (hw _ (List.mem_of_getElem? (i := 2) rfl)) (by decide) (by decide)) (g := (mkF m 47 #[.val (.int p1), .val (.int p2), .val (.int p3), .val (.int p4), .val (.int p5), .val (.ref r36), .val (.int (2 : Int32)), .unset, .unset, .unset] [(.int (v0_47_1 p3)), (.int p5), (.int p4), (.int (2 : Int32))])) rfl (by rw [hml]; rfl) (argsL := [(.int (2 : Int32)), (.int p4), (.int p5), (.int (v0_47_1 p3))]) (rest := []) (lenOf pd_0_0 rfl) rfl (by show 2 * 0 + _ ≤ _; exact Nat.le_of_eq rfl) (hb hby at_47) (fun _ _ => ⟨rfl, rfl, (by decide : 2 + 2 ≤ _), (by decide : 4 + 8 ≤ _)⟩)
      dsimp only [Pt.U, Pt.locs, Pt.cells, Pt.slots] at X55 l55 y55 z55 st55 hQ55 S55 sg55
      subst l55 y55 z55
      obtain ⟨X55f, hS55, hZ55, hown55⟩ := rebS hS hk X55 S55 sg55 hZ hown
      have X55 := X55f
      have hS := hS55
      have hZ := hZ55
      have hown := hown55
      have hk : T55.heap.size ≤ T55.heap.size := Nat.le_refl _
      obtain ⟨r55, rfl, N55q, Kc55⟩ := hQ55
      have K55 : Keep h0 T55.heap [] := K36.trans Kc55 (fun x hx => nomatch hx)
      have Z55 : n0 ≤ T55.heap.size := Nat.le_trans Z36 Kc55.1
      have O55 := O36.keep Kc55 (fun x hx => nomatch hx)
      have N55 := Fr.app N54w N55q
      refine Goes.via (fun t k => st55.trans k) ?_
      show Goes p e below (T55.setTop (mkF m 50 #[.val (.int p1), .val (.int p2), .val (.int p3), .val (.int p4), .val (.int p5), .val (.ref r36), .val (.int (2 : Int32)), .unset, .unset, .unset] [(.ref r55)])) _
      refine Goes.via (fun t k => XS.astore X55.here hx rfl (hb hby at_50) rfl rfl (l' := #[.val (.int p1), .val (.int p2), .val (.int p3), .val (.int p4), .val (.int p5), .val (.ref r36), .val (.int (2 : Int32)), .val (.ref r55), .unset, .unset]) rfl k) ?_
      show Goes p e below (T55.setTop (mkF m 52 #[.val (.int p1), .val (.int p2), .val (.int p3), .val (.int p4), .val (.int p5), .val (.ref r36), .val (.int (2 : Int32)), .val (.ref r55), .unset, .unset] [])) _
      obtain ⟨T56, h56, X56, e56, E56, A56, D56, -, st56⟩ := newO X55 hx hZ hown (hw _ (List.mem_of_getElem? (i := 38) rfl)) (hw _ (List.mem_of_getElem? (i := 39) rfl)) (hw _ (List.mem_of_getElem? (i := 40) rfl)) rfl (g := (mkF m 52 #[.val (.int p1), .val (.int p2), .val (.int p3), .val (.int p4), .val (.int p5), .val (.ref r36), .val (.int (2 : Int32)), .val (.ref r55), .unset, .unset] [])) rfl (hb hby at_52) (by decide) (by decide)
      obtain ⟨b56, g56⟩ : ∃ z, z = T55.heap.size := ⟨_, rfl⟩
      rw [← g56] at A56 D56 st56
      have ge_b56 : n0 ≤ b56 := Nat.le_trans Z55 (Nat.le_of_eq g56.symm)
      have sz_b56 : h0.size ≤ b56 := Nat.le_trans K55.1 (Nat.le_of_eq g56.symm)
      have K56 : Keep h0 h56 [] := K55.ext E56
      have Z56 : n0 ≤ h56.size := Nat.le_trans Z55 E56.1
      have O56 := O55.ext E56
      have hk := Nat.le_trans hk E56.1
      have F56_offset : Fld Z h56 b56 "cascabel/model/selector/TypeSelector" "offset" "I" (.int (0 : Int32)) := D56 (Or.inr (hw _ (List.mem_of_getElem? (i := 51) rfl))) (ty := .int) (by decide)
      have F56_namespace : Fld Z h56 b56 "cascabel/model/selector/TypeSelector" "namespace" "Ljava/lang/String;" .null := D56 (Or.inr (hw _ (List.mem_of_getElem? (i := 53) rfl))) (ty := (.object "java/lang/String")) (by decide)
      have F56_name : Fld Z h56 b56 "cascabel/model/selector/TypeSelector" "name" "Ljava/lang/String;" .null := D56 (Or.inr (hw _ (List.mem_of_getElem? (i := 55) rfl))) (ty := (.object "java/lang/String")) (by decide)
      refine Goes.via st56 ?_
      show Goes p e below (T56.setTop (mkF m 55 #[.val (.int p1), .val (.int p2), .val (.int p3), .val (.int p4), .val (.int p5), .val (.ref r36), .val (.int (2 : Int32)), .val (.ref r55), .unset, .unset] [(.ref b56)])) _
      refine Goes.via (fun t k => XS.dup X56.here hx rfl (hb hby at_55) rfl rfl k) ?_
      show Goes p e below (T56.setTop (mkF m 56 #[.val (.int p1), .val (.int p2), .val (.int p3), .val (.int p4), .val (.int p5), .val (.ref r36), .val (.int (2 : Int32)), .val (.ref r55), .unset, .unset] [(.ref b56), (.ref b56)])) _
      refine Goes.via (fun t k => XS.iloadN X56.here hx rfl (hb hby at_56) rfl k) ?_
      show Goes p e below (T56.setTop (mkF m 57 #[.val (.int p1), .val (.int p2), .val (.int p3), .val (.int p4), .val (.int p5), .val (.ref r36), .val (.int (2 : Int32)), .val (.ref r55), .unset, .unset] [(.int p1), (.ref b56), (.ref b56)])) _
      refine Goes.via (fun t k => XS.aload X56.here hx rfl (hb hby at_57) rfl rfl k) ?_
      show Goes p e below (T56.setTop (mkF m 59 #[.val (.int p1), .val (.int p2), .val (.int p3), .val (.int p4), .val (.int p5), .val (.ref r36), .val (.int (2 : Int32)), .val (.ref r55), .unset, .unset] [(.ref r36), (.int p1), (.ref b56), (.ref b56)])) _
      refine Goes.via (fun t k => XS.aload X56.here hx rfl (hb hby at_59) rfl rfl k) ?_
      show Goes p e below (T56.setTop (mkF m 61 #[.val (.int p1), .val (.int p2), .val (.int p3), .val (.int p4), .val (.int p5), .val (.ref r36), .val (.int (2 : Int32)), .val (.ref r55), .unset, .unset] [(.ref r55), (.ref r36), (.int p1), (.ref b56), (.ref b56)])) _
      try clear size; try clear heap; try clear g56; try clear st56; try clear D56; try clear E56; try clear O55; try clear Z55; try clear K55; try clear Kc55; try clear N55q; try clear hown55
      try clear hZ55; try clear hS55; try clear X55f; try clear st55; try clear z55; try clear y55; try clear l55; try clear hQ55; try clear Lc55; try clear sg55; try clear S55; try clear X55
      try clear n55; try clear k55; try clear L55; try clear T55; try clear N54w; try clear X54w; try clear Lw54; try clear N36; try clear O36; try clear Z36; try clear K36; try clear Kc36
      try clear N36q; try clear hown36; try clear hZ36; try clear hS36; try clear X36f; try clear st36; try clear z36; try clear y36; try clear l36; try clear hQ36; try clear Lc36; try clear sg36
      try clear S36; try clear X36; try clear n36; try clear k36; try clear L36; try clear T36
      obtain ⟨Lw57, X57w, N57w⟩ := ownPack X56 N55
      obtain ⟨_, _, ⟨T58, L58, k58, n58⟩, -, X58, ⟨Lc58, hQ58, l58, y58, z58⟩, st58⟩ := X57w.specialBack hx (y := (⟨"cascabel/model/selector/TypeSelector", "<init>", "(ILjava/lang/String;Ljava/lang/String;)V"⟩ : MethodName)) rfl hown (mvT hZ (hw _ (List.mem_of_getElem? (i := 41) rfl))) (mvT hZ (hw _ (List.mem_of_getElem? (i := 42) rfl))) (mvT hZ (hw _ (List.mem_of_getElem? (i := 43) rfl))) (by decide) (backOf (W := 1) (rm8_11 l Z a0 hw [] b56 p1 r36 r55  h56 n0 Z56 A56 F56_offset F56_namespace F56_name ge_b56) hZ (hw _ (List.mem_of_getElem? (i := 43) rfl)) (hw _ (List.mem_of_getElem? (i := 40) rfl)) (by decide) (by decide)) (g := (mkF m 61 #[.val (.int p1), .val (.int p2), .val (.int p3), .val (.int p4), .val (.int p5), .val (.ref r36), .val (.int (2 : Int32)), .val (.ref r55), .unset, .unset] [(.ref r55), (.ref r36), (.int p1), (.ref b56), (.ref b56)])) rfl (by rw [hml]; rfl) (Steps.refl _) (a := b56) (argsL := [(.int p1), (.ref r36), (.ref r55)]) (rest := [(.ref b56)]) (lenOf pd_0_1 rfl) rfl (by show 2 * 0 + _ ≤ _; exact Nat.le_of_eq rfl) (hb hby at_61) (fun _ _ => ⟨rfl, e56, (by decide : 5 + 0 ≤ _), (by decide : 15 + 0 ≤ _)⟩)
      dsimp only [Pt.U, Pt.locs, Pt.cells, Pt.slots] at X58 l58 y58 z58 st58 hQ58
      subst l58 y58 z58
      obtain ⟨rfl, N58q, Kc58, Ec58, Fn58⟩ := hQ58
      have F58_51 := A56.keep Kc58
      have K58 : Keep h0 T58.heap [] := K56.trans Kc58 (fun x hx => by cases List.mem_singleton.mp hx; exact Or.inr sz_b56)
      have Z58 : n0 ≤ T58.heap.size := Nat.le_trans Z56 Kc58.1
      have O58 := O56.keep Kc58 (fun x hx => by cases List.mem_singleton.mp hx; exact ge_b56)
      have hk := Nat.le_trans hk Kc58.1
      have N58 := Fr.app N57w N58q
      refine Goes.via (fun t k => st58.trans k) ?_
      show Goes p e below (T58.setTop (mkF m 64 #[.val (.int p1), .val (.int p2), .val (.int p3), .val (.int p4), .val (.int p5), .val (.ref r36), .val (.int (2 : Int32)), .val (.ref r55), .unset, .unset] [(.ref b56)])) _
      refine Goes.via (fun t k => XS.astore X58.here hx rfl (hb hby at_64) rfl rfl (l' := #[.val (.int p1), .val (.int p2), .val (.int p3), .val (.int p4), .val (.int p5), .val (.ref r36), .val (.int (2 : Int32)), .val (.ref r55), .val (.ref b56), .unset]) rfl k) ?_
      show Goes p e below (T58.setTop (mkF m 66 #[.val (.int p1), .val (.int p2), .val (.int p3), .val (.int p4), .val (.int p5), .val (.ref r36), .val (.int (2 : Int32)), .val (.ref r55), .val (.ref b56), .unset] [])) _
      refine Goes.via (fun t k => XS.iload X58.here hx rfl (hb hby at_66) rfl k) ?_
      show Goes p e below (T58.setTop (mkF m 68 #[.val (.int p1), .val (.int p2), .val (.int p3), .val (.int p4), .val (.int p5), .val (.ref r36), .val (.int (2 : Int32)), .val (.ref r55), .val (.ref b56), .unset] [(.int (2 : Int32))])) _
      refine Goes.via (fun t k => XS.ifYes X58.here hx rfl (pc0 := 68) (pc' := 75) rfl (hb hby at_68) rfl ((if0 _ _).trans (feq (show ¬ ((2 : Int32) = (0 : Int32)) from (by decide))).2) (by decide) (by decide) k) ?_
      show Goes p e below (T58.setTop (mkF m 75 #[.val (.int p1), .val (.int p2), .val (.int p3), .val (.int p4), .val (.int p5), .val (.ref r36), .val (.int (2 : Int32)), .val (.ref r55), .val (.ref b56), .unset] [])) _
      refine Goes.via (fun t k => XS.iconst X58.here hx rfl (hb hby at_75) k) ?_
      show Goes p e below (T58.setTop (mkF m 76 #[.val (.int p1), .val (.int p2), .val (.int p3), .val (.int p4), .val (.int p5), .val (.ref r36), .val (.int (2 : Int32)), .val (.ref r55), .val (.ref b56), .unset] [(.int (0 : Int32))])) _
      refine Goes.via (fun t k => XS.istore X58.here hx rfl (hb hby at_76) rfl (l' := #[.val (.int p1), .val (.int p2), .val (.int p3), .val (.int p4), .val (.int p5), .val (.ref r36), .val (.int (2 : Int32)), .val (.ref r55), .val (.ref b56), .val (.int (0 : Int32))]) rfl k) ?_
      show Goes p e below (T58.setTop (mkF m 78 #[.val (.int p1), .val (.int p2), .val (.int p3), .val (.int p4), .val (.int p5), .val (.ref r36), .val (.int (2 : Int32)), .val (.ref r55), .val (.ref b56), .val (.int (0 : Int32))] [])) _
      refine Goes.via (fun t k => XS.aload X58.here hx rfl (hb hby at_78) rfl rfl k) ?_
      show Goes p e below (T58.setTop (mkF m 80 #[.val (.int p1), .val (.int p2), .val (.int p3), .val (.int p4), .val (.int p5), .val (.ref r36), .val (.int (2 : Int32)), .val (.ref r55), .val (.ref b56), .val (.int (0 : Int32))] [(.ref b56)])) _
      obtain ⟨Lw59, X59w, N59w⟩ := ownPack X58 N58
      obtain ⟨cq60, kq60, q60a, q60b, q60c⟩ := isOf hZ rfl F58_51
      obtain ⟨_, _, ⟨T60, L60, k60, n60⟩, -, X60, ⟨Lc60, hQ60, l60, y60, z60⟩, st60⟩ := X59w.virtualBack hx (y := (⟨"cascabel/model/selector/TypeSelector", "isUniversal", "()Z"⟩ : MethodName)) (z := (⟨"cascabel/model/selector/TypeSelector", "isUniversal", "()Z"⟩ : MethodName)) hown (mvT hZ (hw _ (List.mem_of_getElem? (i := 56) rfl))) (mvT hZ (hw _ (List.mem_of_getElem? (i := 57) rfl))) (notFace_of_selects (args := #[]) (mvT hZ (hw _ (List.mem_of_getElem? (i := 59) rfl)))) (mvT hZ (hw _ (List.mem_of_getElem? (i := 59) rfl))) (mvT hZ (hw _ (List.mem_of_getElem? (i := 58) rfl))) (by decide) (backOf (W := 0) (rm10_1 l Z a0 hw [] b56 r55 T58.heap n0 Z58 Fn58) hZ (hw _ (List.mem_of_getElem? (i := 60) rfl)) (hw _ (List.mem_of_getElem? (i := 40) rfl)) (by decide) (by decide)) q60a q60c (g := (mkF m 80 #[.val (.int p1), .val (.int p2), .val (.int p3), .val (.int p4), .val (.int p5), .val (.ref r36), .val (.int (2 : Int32)), .val (.ref r55), .val (.ref b56), .val (.int (0 : Int32))] [(.ref b56)])) rfl (by rw [hml]; rfl) (Steps.refl _) (argsL := []) (rest := []) (lenOf pd_0_2 rfl) rfl (by show 2 * 0 + _ ≤ _; exact Nat.le_of_eq rfl) (hb hby at_80) (fun _ _ => ⟨rfl, rfl, (by decide : 5 + 0 ≤ _), (by decide : 15 + 0 ≤ _)⟩)
      dsimp only [Pt.U, Pt.locs, Pt.cells, Pt.slots] at X60 l60 y60 z60 st60 hQ60
      subst l60 y60 z60
      obtain ⟨rfl, N60q, er60⟩ := hQ60
      have e60 : T60.heap = T58.heap := er60
      have N60 := Fr.app N59w N60q
      refine Goes.via (fun t k => st60.trans k) ?_
      show Goes p e below (T60.setTop (mkF m 83 #[.val (.int p1), .val (.int p2), .val (.int p3), .val (.int p4), .val (.int p5), .val (.ref r36), .val (.int (2 : Int32)), .val (.ref r55), .val (.ref b56), .val (.int (0 : Int32))] [(.int (0 : Int32))])) _
      refine Goes.via (fun t k => XS.iload X60.here hx rfl (hb hby at_83) rfl k) ?_
      show Goes p e below (T60.setTop (mkF m 85 #[.val (.int p1), .val (.int p2), .val (.int p3), .val (.int p4), .val (.int p5), .val (.ref r36), .val (.int (2 : Int32)), .val (.ref r55), .val (.ref b56), .val (.int (0 : Int32))] [(.int (0 : Int32)), (.int (0 : Int32))])) _
      refine Goes.via (fun t k => XS.icmpNo X60.here hx rfl (hb hby at_85) rfl (teq (show (0 : Int32) = (0 : Int32) from rfl)).2 k) ?_
      show Goes p e below (T60.setTop (mkF m 88 #[.val (.int p1), .val (.int p2), .val (.int p3), .val (.int p4), .val (.int p5), .val (.ref r36), .val (.int (2 : Int32)), .val (.ref r55), .val (.ref b56), .val (.int (0 : Int32))] [])) _
      refine Goes.via (fun t k => XS.iconst X60.here hx rfl (hb hby at_88) k) ?_
      show Goes p e below (T60.setTop (mkF m 89 #[.val (.int p1), .val (.int p2), .val (.int p3), .val (.int p4), .val (.int p5), .val (.ref r36), .val (.int (2 : Int32)), .val (.ref r55), .val (.ref b56), .val (.int (0 : Int32))] [(.int (1 : Int32))])) _
      refine Goes.via (fun t k => XS.goto X60.here hx rfl (pc0 := 89) (pc' := 93) rfl (hb hby at_89) (by decide) (by decide) k) ?_
      show Goes p e below (T60.setTop (mkF m 93 #[.val (.int p1), .val (.int p2), .val (.int p3), .val (.int p4), .val (.int p5), .val (.ref r36), .val (.int (2 : Int32)), .val (.ref r55), .val (.ref b56), .val (.int (0 : Int32))] [(.int (1 : Int32))])) _
      obtain ⟨fs, hr, hrun, hended, hRE⟩ := X60.leaveW hS (by rw [e60]; exact hk) (v := some (.int (1 : Int32))) (fun h => by rw [Bd.returns] at h; cases h)
      refine ⟨_, _, ?_, hrun, hended, _, _, rfl, ?_, hRE.1, hRE.2.1, hRE.2.2.1, hRE.2.2.2.mono (by decide) (by decide)⟩
      · exact retN X60 hx (t := .boolean) Bd.returns (by simp) (hb hby at_93) hr
      · show Q0 Z  h0 n0 _ T60.heap _ _
        rw [e60]
        exact ⟨rfl, N60⟩
    · rw [hlB]
      show Goes p e below (T36.setTop (mkF m 27 #[.val (.int p1), .val (.int p2), .val (.int p3), .val (.int p4), .val (.int p5), .val (.ref r36), .unset, .unset, .unset, .unset] [(.int (3 : Int32))])) _
      refine Goes.via (fun t k => XS.istore X36.here hx rfl (hb hby at_27) rfl (l' := #[.val (.int p1), .val (.int p2), .val (.int p3), .val (.int p4), .val (.int p5), .val (.ref r36), .val (.int (3 : Int32)), .unset, .unset, .unset]) rfl k) ?_
      show Goes p e below (T36.setTop (mkF m 29 #[.val (.int p1), .val (.int p2), .val (.int p3), .val (.int p4), .val (.int p5), .val (.ref r36), .val (.int (3 : Int32)), .unset, .unset, .unset] [])) _
      refine Goes.via (fun t k => XS.iload X36.here hx rfl (hb hby at_29) rfl k) ?_
      show Goes p e below (T36.setTop (mkF m 31 #[.val (.int p1), .val (.int p2), .val (.int p3), .val (.int p4), .val (.int p5), .val (.ref r36), .val (.int (3 : Int32)), .unset, .unset, .unset] [(.int (3 : Int32))])) _
      refine Goes.via (fun t k => XS.iloadN X36.here hx rfl (hb hby at_31) rfl k) ?_
      show Goes p e below (T36.setTop (mkF m 32 #[.val (.int p1), .val (.int p2), .val (.int p3), .val (.int p4), .val (.int p5), .val (.ref r36), .val (.int (3 : Int32)), .unset, .unset, .unset] [(.int p4), (.int (3 : Int32))])) _
      refine Goes.via (fun t k => XS.iload X36.here hx rfl (hb hby at_32) rfl k) ?_
      show Goes p e below (T36.setTop (mkF m 34 #[.val (.int p1), .val (.int p2), .val (.int p3), .val (.int p4), .val (.int p5), .val (.ref r36), .val (.int (3 : Int32)), .unset, .unset, .unset] [(.int p5), (.int p4), (.int (3 : Int32))])) _
      refine Goes.via (fun t k => XS.iloadN X36.here hx rfl (hb hby at_34) rfl k) ?_
      show Goes p e below (T36.setTop (mkF m 35 #[.val (.int p1), .val (.int p2), .val (.int p3), .val (.int p4), .val (.int p5), .val (.ref r36), .val (.int (3 : Int32)), .unset, .unset, .unset] [(.int p3), (.int p5), (.int p4), (.int (3 : Int32))])) _
      refine Goes.via (fun t k => XS.iconst X36.here hx rfl (hb hby at_35) k) ?_
      show Goes p e below (T36.setTop (mkF m 36 #[.val (.int p1), .val (.int p2), .val (.int p3), .val (.int p4), .val (.int p5), .val (.ref r36), .val (.int (3 : Int32)), .unset, .unset, .unset] [(.int (2 : Int32)), (.int p3), (.int p5), (.int p4), (.int (3 : Int32))])) _
      refine Goes.via (fun t k => XS.iushr X36.here hx rfl (hb hby at_36) rfl k) ?_
      show Goes p e below (T36.setTop (mkF m 37 #[.val (.int p1), .val (.int p2), .val (.int p3), .val (.int p4), .val (.int p5), .val (.ref r36), .val (.int (3 : Int32)), .unset, .unset, .unset] [(.int ((p3.toUInt32 >>> ((2 : Int32) &&& 31).toUInt32).toInt32)), (.int p5), (.int p4), (.int (3 : Int32))])) _
      refine Goes.via (fun t k => XS.iconst X36.here hx rfl (hb hby at_37) k) ?_
      show Goes p e below (T36.setTop (mkF m 38 #[.val (.int p1), .val (.int p2), .val (.int p3), .val (.int p4), .val (.int p5), .val (.ref r36), .val (.int (3 : Int32)), .unset, .unset, .unset] [(.int (1 : Int32)), (.int ((p3.toUInt32 >>> ((2 : Int32) &&& 31).toUInt32).toInt32)), (.int p5), (.int p4), (.int (3 : Int32))])) _
      refine Goes.via (fun t k => XS.iand X36.here hx rfl (hb hby at_38) rfl k) ?_
      show Goes p e below (T36.setTop (mkF m 39 #[.val (.int p1), .val (.int p2), .val (.int p3), .val (.int p4), .val (.int p5), .val (.ref r36), .val (.int (3 : Int32)), .unset, .unset, .unset] [(.int (((p3.toUInt32 >>> ((2 : Int32) &&& 31).toUInt32).toInt32) &&& (1 : Int32))), (.int p5), (.int p4), (.int (3 : Int32))])) _
      refine Goes.via (next := T36.setTop (mkF m 47 #[.val (.int p1), .val (.int p2), .val (.int p3), .val (.int p4), .val (.int p5), .val (.ref r36), .val (.int (3 : Int32)), .unset, .unset, .unset] [(.int (v0_47_1 p3)), (.int p5), (.int p4), (.int (3 : Int32))])) (fun t k => ?_) ?_
      · by_cases hc39_61 : (((p3.toUInt32 >>> ((2 : Int32) &&& 31).toUInt32).toInt32) &&& (1 : Int32)) = (0 : Int32)
        · refine XS.ifYes X36.here hx rfl (pc0 := 39) (pc' := 46) rfl (hb hby at_39) rfl ((if0 _ _).trans (teq hc39_61).1) (by decide) (by decide) ?_
          show Steps p.tables e below (T36.setTop (mkF m 46 #[.val (.int p1), .val (.int p2), .val (.int p3), .val (.int p4), .val (.int p5), .val (.ref r36), .val (.int (3 : Int32)), .unset, .unset, .unset] [(.int p5), (.int p4), (.int (3 : Int32))])) _
          refine XS.iconst X36.here hx rfl (hb hby at_46) ?_
          show Steps p.tables e below (T36.setTop (mkF m 47 #[.val (.int p1), .val (.int p2), .val (.int p3), .val (.int p4), .val (.int p5), .val (.ref r36), .val (.int (3 : Int32)), .unset, .unset, .unset] [(.int (0 : Int32)), (.int p5), (.int p4), (.int (3 : Int32))])) _
          simpa only [v0_47_1, if_pos hc39_61] using k
        · refine XS.ifNo X36.here hx rfl (hb hby at_39) rfl ((if0 _ _).trans (feq hc39_61).1) ?_
          show Steps p.tables e below (T36.setTop (mkF m 42 #[.val (.int p1), .val (.int p2), .val (.int p3), .val (.int p4), .val (.int p5), .val (.ref r36), .val (.int (3 : Int32)), .unset, .unset, .unset] [(.int p5), (.int p4), (.int (3 : Int32))])) _
          refine XS.iconst X36.here hx rfl (hb hby at_42) ?_
          show Steps p.tables e below (T36.setTop (mkF m 43 #[.val (.int p1), .val (.int p2), .val (.int p3), .val (.int p4), .val (.int p5), .val (.ref r36), .val (.int (3 : Int32)), .unset, .unset, .unset] [(.int (1 : Int32)), (.int p5), (.int p4), (.int (3 : Int32))])) _
          refine XS.goto X36.here hx rfl (pc0 := 43) (pc' := 47) rfl (hb hby at_43) (by decide) (by decide) ?_
          show Steps p.tables e below (T36.setTop (mkF m 47 #[.val (.int p1), .val (.int p2), .val (.int p3), .val (.int p4), .val (.int p5), .val (.ref r36), .val (.int (3 : Int32)), .unset, .unset, .unset] [(.int (1 : Int32)), (.int p5), (.int p4), (.int (3 : Int32))])) _
          simpa only [v0_47_1, if_neg hc39_61] using k
      show Goes p e below (T36.setTop (mkF m 47 #[.val (.int p1), .val (.int p2), .val (.int p3), .val (.int p4), .val (.int p5), .val (.ref r36), .val (.int (3 : Int32)), .unset, .unset, .unset] [(.int (v0_47_1 p3)), (.int p5), (.int p4), (.int (3 : Int32))])) _
      obtain ⟨Lw62, X62w, N62w⟩ := ownPack X36 N36
      obtain ⟨_, _, ⟨T63, L63, k63, n63⟩, -, X63, ⟨Lc63, hQ63, l63, y63, z63⟩, st63⟩ := Jvm.LawKit.callS X62w hx (y := (⟨"cascabel/model/selector/TypeSelectorIsUniversalPinLaw", "pick", "(IIIZ)Ljava/lang/String;"⟩ : MethodName)) hown (mvT hZ (hw _ (List.mem_of_getElem? (i := 0) rfl))) (mvT hZ (hw _ (List.mem_of_getElem? (i := 1) rfl))) (mvT hZ (hw _ (List.mem_of_getElem? (i := 2) rfl))) (mvT hZ (hw _ (List.mem_of_getElem? (i := 3) rfl))) (by decide) (backOf (W := 0) (rm1_3 l Z a0 hw [] p4 p5 (v0_47_1 p3) w0 T36.heap n0 Z36 O36 St) hZ (hw _ (List.mem_of_getElem? (i := 3) rfl)) (hw _ (List.mem_of_getElem? (i := 2) rfl)) (by decide) (by decide)) (g := (mkF m 47 #[.val (.int p1), .val (.int p2), .val (.int p3), .val (.int p4), .val (.int p5), .val (.ref r36), .val (.int (3 : Int32)), .unset, .unset, .unset] [(.int (v0_47_1 p3)), (.int p5), (.int p4), (.int (3 : Int32))])) rfl (by rw [hml]; rfl) (argsL := [(.int (3 : Int32)), (.int p4), (.int p5), (.int (v0_47_1 p3))]) (rest := []) (lenOf pd_0_0 rfl) rfl (by show 2 * 0 + _ ≤ _; exact Nat.le_of_eq rfl) (hb hby at_47) (fun _ _ => ⟨rfl, rfl, (by decide : 2 + 4 ≤ _), (by decide : 4 + 8 ≤ _)⟩)
      dsimp only [Pt.U, Pt.locs, Pt.cells, Pt.slots] at X63 l63 y63 z63 st63 hQ63
      subst l63 y63 z63
      obtain ⟨r63, rfl, N63q, Kc63⟩ := hQ63
      have K63 : Keep h0 T63.heap [] := K36.trans Kc63 (fun x hx => nomatch hx)
      have Z63 : n0 ≤ T63.heap.size := Nat.le_trans Z36 Kc63.1
      have O63 := O36.keep Kc63 (fun x hx => nomatch hx)
      have hk := Nat.le_trans hk Kc63.1
      have N63 := Fr.app N62w N63q
      refine Goes.via st63 ?_
      show Goes p e below (T63.setTop (mkF m 50 #[.val (.int p1), .val (.int p2), .val (.int p3), .val (.int p4), .val (.int p5), .val (.ref r36), .val (.int (3 : Int32)), .unset, .unset, .unset] [(.ref r63)])) _
      refine Goes.via (fun t k => XS.astore X63.here hx rfl (hb hby at_50) rfl rfl (l' := #[.val (.int p1), .val (.int p2), .val (.int p3), .val (.int p4), .val (.int p5), .val (.ref r36), .val (.int (3 : Int32)), .val (.ref r63), .unset, .unset]) rfl k) ?_
      show Goes p e below (T63.setTop (mkF m 52 #[.val (.int p1), .val (.int p2), .val (.int p3), .val (.int p4), .val (.int p5), .val (.ref r36), .val (.int (3 : Int32)), .val (.ref r63), .unset, .unset] [])) _
      obtain ⟨T64, h64, X64, e64, E64, A64, D64, -, st64⟩ := newO X63 hx hZ hown (hw _ (List.mem_of_getElem? (i := 38) rfl)) (hw _ (List.mem_of_getElem? (i := 39) rfl)) (hw _ (List.mem_of_getElem? (i := 40) rfl)) rfl (g := (mkF m 52 #[.val (.int p1), .val (.int p2), .val (.int p3), .val (.int p4), .val (.int p5), .val (.ref r36), .val (.int (3 : Int32)), .val (.ref r63), .unset, .unset] [])) rfl (hb hby at_52) (by decide) (by decide)
      obtain ⟨b64, g64⟩ : ∃ z, z = T63.heap.size := ⟨_, rfl⟩
      rw [← g64] at A64 D64 st64
      have ge_b64 : n0 ≤ b64 := Nat.le_trans Z63 (Nat.le_of_eq g64.symm)
      have sz_b64 : h0.size ≤ b64 := Nat.le_trans K63.1 (Nat.le_of_eq g64.symm)
      have K64 : Keep h0 h64 [] := K63.ext E64
      have Z64 : n0 ≤ h64.size := Nat.le_trans Z63 E64.1
      have O64 := O63.ext E64
      have hk := Nat.le_trans hk E64.1
      have F64_offset : Fld Z h64 b64 "cascabel/model/selector/TypeSelector" "offset" "I" (.int (0 : Int32)) := D64 (Or.inr (hw _ (List.mem_of_getElem? (i := 51) rfl))) (ty := .int) (by decide)
      have F64_namespace : Fld Z h64 b64 "cascabel/model/selector/TypeSelector" "namespace" "Ljava/lang/String;" .null := D64 (Or.inr (hw _ (List.mem_of_getElem? (i := 53) rfl))) (ty := (.object "java/lang/String")) (by decide)
      have F64_name : Fld Z h64 b64 "cascabel/model/selector/TypeSelector" "name" "Ljava/lang/String;" .null := D64 (Or.inr (hw _ (List.mem_of_getElem? (i := 55) rfl))) (ty := (.object "java/lang/String")) (by decide)
      refine Goes.via st64 ?_
      show Goes p e below (T64.setTop (mkF m 55 #[.val (.int p1), .val (.int p2), .val (.int p3), .val (.int p4), .val (.int p5), .val (.ref r36), .val (.int (3 : Int32)), .val (.ref r63), .unset, .unset] [(.ref b64)])) _
      refine Goes.via (fun t k => XS.dup X64.here hx rfl (hb hby at_55) rfl rfl k) ?_
      show Goes p e below (T64.setTop (mkF m 56 #[.val (.int p1), .val (.int p2), .val (.int p3), .val (.int p4), .val (.int p5), .val (.ref r36), .val (.int (3 : Int32)), .val (.ref r63), .unset, .unset] [(.ref b64), (.ref b64)])) _
      refine Goes.via (fun t k => XS.iloadN X64.here hx rfl (hb hby at_56) rfl k) ?_
      show Goes p e below (T64.setTop (mkF m 57 #[.val (.int p1), .val (.int p2), .val (.int p3), .val (.int p4), .val (.int p5), .val (.ref r36), .val (.int (3 : Int32)), .val (.ref r63), .unset, .unset] [(.int p1), (.ref b64), (.ref b64)])) _
      refine Goes.via (fun t k => XS.aload X64.here hx rfl (hb hby at_57) rfl rfl k) ?_
      show Goes p e below (T64.setTop (mkF m 59 #[.val (.int p1), .val (.int p2), .val (.int p3), .val (.int p4), .val (.int p5), .val (.ref r36), .val (.int (3 : Int32)), .val (.ref r63), .unset, .unset] [(.ref r36), (.int p1), (.ref b64), (.ref b64)])) _
      refine Goes.via (fun t k => XS.aload X64.here hx rfl (hb hby at_59) rfl rfl k) ?_
      show Goes p e below (T64.setTop (mkF m 61 #[.val (.int p1), .val (.int p2), .val (.int p3), .val (.int p4), .val (.int p5), .val (.ref r36), .val (.int (3 : Int32)), .val (.ref r63), .unset, .unset] [(.ref r63), (.ref r36), (.int p1), (.ref b64), (.ref b64)])) _
      obtain ⟨Lw65, X65w, N65w⟩ := ownPack X64 N63
      obtain ⟨_, _, ⟨T66, L66, k66, n66⟩, -, X66, ⟨Lc66, hQ66, l66, y66, z66⟩, st66⟩ := X65w.specialBack hx (y := (⟨"cascabel/model/selector/TypeSelector", "<init>", "(ILjava/lang/String;Ljava/lang/String;)V"⟩ : MethodName)) rfl hown (mvT hZ (hw _ (List.mem_of_getElem? (i := 41) rfl))) (mvT hZ (hw _ (List.mem_of_getElem? (i := 42) rfl))) (mvT hZ (hw _ (List.mem_of_getElem? (i := 43) rfl))) (by decide) (backOf (W := 1) (rm8_11 l Z a0 hw [] b64 p1 r36 r63  h64 n0 Z64 A64 F64_offset F64_namespace F64_name ge_b64) hZ (hw _ (List.mem_of_getElem? (i := 43) rfl)) (hw _ (List.mem_of_getElem? (i := 40) rfl)) (by decide) (by decide)) (g := (mkF m 61 #[.val (.int p1), .val (.int p2), .val (.int p3), .val (.int p4), .val (.int p5), .val (.ref r36), .val (.int (3 : Int32)), .val (.ref r63), .unset, .unset] [(.ref r63), (.ref r36), (.int p1), (.ref b64), (.ref b64)])) rfl (by rw [hml]; rfl) (Steps.refl _) (a := b64) (argsL := [(.int p1), (.ref r36), (.ref r63)]) (rest := [(.ref b64)]) (lenOf pd_0_1 rfl) rfl (by show 2 * 0 + _ ≤ _; exact Nat.le_of_eq rfl) (hb hby at_61) (fun _ _ => ⟨rfl, e64, (by decide : 7 + 0 ≤ _), (by decide : 15 + 0 ≤ _)⟩)
      dsimp only [Pt.U, Pt.locs, Pt.cells, Pt.slots] at X66 l66 y66 z66 st66 hQ66
      subst l66 y66 z66
      obtain ⟨rfl, N66q, Kc66, Ec66, Fn66⟩ := hQ66
      have F66_41 := A64.keep Kc66
      have K66 : Keep h0 T66.heap [] := K64.trans Kc66 (fun x hx => by cases List.mem_singleton.mp hx; exact Or.inr sz_b64)
      have Z66 : n0 ≤ T66.heap.size := Nat.le_trans Z64 Kc66.1
      have O66 := O64.keep Kc66 (fun x hx => by cases List.mem_singleton.mp hx; exact ge_b64)
      have hk := Nat.le_trans hk Kc66.1
      have N66 := Fr.app N65w N66q
      refine Goes.via (fun t k => st66.trans k) ?_
      show Goes p e below (T66.setTop (mkF m 64 #[.val (.int p1), .val (.int p2), .val (.int p3), .val (.int p4), .val (.int p5), .val (.ref r36), .val (.int (3 : Int32)), .val (.ref r63), .unset, .unset] [(.ref b64)])) _
      refine Goes.via (fun t k => XS.astore X66.here hx rfl (hb hby at_64) rfl rfl (l' := #[.val (.int p1), .val (.int p2), .val (.int p3), .val (.int p4), .val (.int p5), .val (.ref r36), .val (.int (3 : Int32)), .val (.ref r63), .val (.ref b64), .unset]) rfl k) ?_
      show Goes p e below (T66.setTop (mkF m 66 #[.val (.int p1), .val (.int p2), .val (.int p3), .val (.int p4), .val (.int p5), .val (.ref r36), .val (.int (3 : Int32)), .val (.ref r63), .val (.ref b64), .unset] [])) _
      refine Goes.via (fun t k => XS.iload X66.here hx rfl (hb hby at_66) rfl k) ?_
      show Goes p e below (T66.setTop (mkF m 68 #[.val (.int p1), .val (.int p2), .val (.int p3), .val (.int p4), .val (.int p5), .val (.ref r36), .val (.int (3 : Int32)), .val (.ref r63), .val (.ref b64), .unset] [(.int (3 : Int32))])) _
      refine Goes.via (fun t k => XS.ifYes X66.here hx rfl (pc0 := 68) (pc' := 75) rfl (hb hby at_68) rfl ((if0 _ _).trans (feq (show ¬ ((3 : Int32) = (0 : Int32)) from (by decide))).2) (by decide) (by decide) k) ?_
      show Goes p e below (T66.setTop (mkF m 75 #[.val (.int p1), .val (.int p2), .val (.int p3), .val (.int p4), .val (.int p5), .val (.ref r36), .val (.int (3 : Int32)), .val (.ref r63), .val (.ref b64), .unset] [])) _
      refine Goes.via (fun t k => XS.iconst X66.here hx rfl (hb hby at_75) k) ?_
      show Goes p e below (T66.setTop (mkF m 76 #[.val (.int p1), .val (.int p2), .val (.int p3), .val (.int p4), .val (.int p5), .val (.ref r36), .val (.int (3 : Int32)), .val (.ref r63), .val (.ref b64), .unset] [(.int (0 : Int32))])) _
      refine Goes.via (fun t k => XS.istore X66.here hx rfl (hb hby at_76) rfl (l' := #[.val (.int p1), .val (.int p2), .val (.int p3), .val (.int p4), .val (.int p5), .val (.ref r36), .val (.int (3 : Int32)), .val (.ref r63), .val (.ref b64), .val (.int (0 : Int32))]) rfl k) ?_
      show Goes p e below (T66.setTop (mkF m 78 #[.val (.int p1), .val (.int p2), .val (.int p3), .val (.int p4), .val (.int p5), .val (.ref r36), .val (.int (3 : Int32)), .val (.ref r63), .val (.ref b64), .val (.int (0 : Int32))] [])) _
      refine Goes.via (fun t k => XS.aload X66.here hx rfl (hb hby at_78) rfl rfl k) ?_
      show Goes p e below (T66.setTop (mkF m 80 #[.val (.int p1), .val (.int p2), .val (.int p3), .val (.int p4), .val (.int p5), .val (.ref r36), .val (.int (3 : Int32)), .val (.ref r63), .val (.ref b64), .val (.int (0 : Int32))] [(.ref b64)])) _
      try clear Ec66; try clear Kc66; try clear N66q; try clear st66; try clear z66; try clear y66; try clear l66; try clear hQ66; try clear Lc66; try clear n66; try clear k66; try clear L66
      try clear N65w; try clear X65w; try clear Lw65; try clear F64_name; try clear F64_namespace; try clear F64_offset; try clear O64; try clear Z64; try clear K64; try clear size; try clear g64; try clear st64
      try clear D64; try clear A64; try clear E64; try clear e64; try clear X64; try clear h64; try clear T64; try clear N63; try clear O63; try clear Z63; try clear K63; try clear Kc63
      try clear N63q; try clear st63; try clear z63; try clear y63; try clear l63; try clear hQ63; try clear Lc63; try clear X63; try clear n63; try clear k63; try clear L63; try clear T63
      try clear N62w; try clear X62w; try clear Lw62; try clear N36; try clear O36; try clear Z36; try clear K36; try clear Kc36; try clear N36q; try clear hown36; try clear hZ36; try clear hS36
      try clear X36f; try clear st36; try clear z36; try clear y36; try clear l36; try clear hQ36; try clear Lc36; try clear sg36; try clear S36; try clear X36; try clear n36; try clear k36
      try clear L36; try clear T36
      obtain ⟨Lw67, X67w, N67w⟩ := ownPack X66 N66
      obtain ⟨cq68, kq68, q68a, q68b, q68c⟩ := isOf hZ rfl F66_41
      obtain ⟨_, _, ⟨T68, L68, k68, n68⟩, -, X68, ⟨Lc68, hQ68, l68, y68, z68⟩, st68⟩ := X67w.virtualBack hx (y := (⟨"cascabel/model/selector/TypeSelector", "isUniversal", "()Z"⟩ : MethodName)) (z := (⟨"cascabel/model/selector/TypeSelector", "isUniversal", "()Z"⟩ : MethodName)) hown (mvT hZ (hw _ (List.mem_of_getElem? (i := 56) rfl))) (mvT hZ (hw _ (List.mem_of_getElem? (i := 57) rfl))) (notFace_of_selects (args := #[]) (mvT hZ (hw _ (List.mem_of_getElem? (i := 59) rfl)))) (mvT hZ (hw _ (List.mem_of_getElem? (i := 59) rfl))) (mvT hZ (hw _ (List.mem_of_getElem? (i := 58) rfl))) (by decide) (backOf (W := 0) (rm10_1 l Z a0 hw [] b64 r63 T66.heap n0 Z66 Fn66) hZ (hw _ (List.mem_of_getElem? (i := 60) rfl)) (hw _ (List.mem_of_getElem? (i := 40) rfl)) (by decide) (by decide)) q68a q68c (g := (mkF m 80 #[.val (.int p1), .val (.int p2), .val (.int p3), .val (.int p4), .val (.int p5), .val (.ref r36), .val (.int (3 : Int32)), .val (.ref r63), .val (.ref b64), .val (.int (0 : Int32))] [(.ref b64)])) rfl (by rw [hml]; rfl) (Steps.refl _) (argsL := []) (rest := []) (lenOf pd_0_2 rfl) rfl (by show 2 * 0 + _ ≤ _; exact Nat.le_of_eq rfl) (hb hby at_80) (fun _ _ => ⟨rfl, rfl, (by decide : 7 + 0 ≤ _), (by decide : 15 + 0 ≤ _)⟩)
      dsimp only [Pt.U, Pt.locs, Pt.cells, Pt.slots] at X68 l68 y68 z68 st68 hQ68
      subst l68 y68 z68
      obtain ⟨rfl, N68q, er68⟩ := hQ68
      have e68 : T68.heap = T66.heap := er68
      have N68 := Fr.app N67w N68q
      refine Goes.via (fun t k => st68.trans k) ?_
      show Goes p e below (T68.setTop (mkF m 83 #[.val (.int p1), .val (.int p2), .val (.int p3), .val (.int p4), .val (.int p5), .val (.ref r36), .val (.int (3 : Int32)), .val (.ref r63), .val (.ref b64), .val (.int (0 : Int32))] [(.int (0 : Int32))])) _
      refine Goes.via (fun t k => XS.iload X68.here hx rfl (hb hby at_83) rfl k) ?_
      show Goes p e below (T68.setTop (mkF m 85 #[.val (.int p1), .val (.int p2), .val (.int p3), .val (.int p4), .val (.int p5), .val (.ref r36), .val (.int (3 : Int32)), .val (.ref r63), .val (.ref b64), .val (.int (0 : Int32))] [(.int (0 : Int32)), (.int (0 : Int32))])) _
      refine Goes.via (fun t k => XS.icmpNo X68.here hx rfl (hb hby at_85) rfl (teq (show (0 : Int32) = (0 : Int32) from rfl)).2 k) ?_
      show Goes p e below (T68.setTop (mkF m 88 #[.val (.int p1), .val (.int p2), .val (.int p3), .val (.int p4), .val (.int p5), .val (.ref r36), .val (.int (3 : Int32)), .val (.ref r63), .val (.ref b64), .val (.int (0 : Int32))] [])) _
      refine Goes.via (fun t k => XS.iconst X68.here hx rfl (hb hby at_88) k) ?_
      show Goes p e below (T68.setTop (mkF m 89 #[.val (.int p1), .val (.int p2), .val (.int p3), .val (.int p4), .val (.int p5), .val (.ref r36), .val (.int (3 : Int32)), .val (.ref r63), .val (.ref b64), .val (.int (0 : Int32))] [(.int (1 : Int32))])) _
      refine Goes.via (fun t k => XS.goto X68.here hx rfl (pc0 := 89) (pc' := 93) rfl (hb hby at_89) (by decide) (by decide) k) ?_
      show Goes p e below (T68.setTop (mkF m 93 #[.val (.int p1), .val (.int p2), .val (.int p3), .val (.int p4), .val (.int p5), .val (.ref r36), .val (.int (3 : Int32)), .val (.ref r63), .val (.ref b64), .val (.int (0 : Int32))] [(.int (1 : Int32))])) _
      obtain ⟨fs, hr, hrun, hended, hRE⟩ := X68.leaveW hS (by rw [e68]; exact hk) (v := some (.int (1 : Int32))) (fun h => by rw [Bd.returns] at h; cases h)
      refine ⟨_, _, ?_, hrun, hended, _, _, rfl, ?_, hRE.1, hRE.2.1, hRE.2.2.1, hRE.2.2.2.mono (by decide) (by decide)⟩
      · exact retN X68 hx (t := .boolean) Bd.returns (by simp) (hb hby at_93) hr
      · show Q0 Z  h0 n0 _ T68.heap _ _
        rw [e68]
        exact ⟨rfl, N68⟩
  · rw [hlA]
    show Goes p e below (s₁.setTop (mkF m 3 #[.val (.int p1), .val (.int p2), .val (.int p3), .val (.int p4), .val (.int p5), .unset, .unset, .unset, .unset, .unset] [(.int (2 : Int32))])) _
    refine Goes.via (fun t k => XS.iloadN X0.here hx rfl (hb hby at_3) rfl k) ?_
    show Goes p e below (s₁.setTop (mkF m 4 #[.val (.int p1), .val (.int p2), .val (.int p3), .val (.int p4), .val (.int p5), .unset, .unset, .unset, .unset, .unset] [(.int p4), (.int (2 : Int32))])) _
    refine Goes.via (fun t k => XS.iload X0.here hx rfl (hb hby at_4) rfl k) ?_
    show Goes p e below (s₁.setTop (mkF m 6 #[.val (.int p1), .val (.int p2), .val (.int p3), .val (.int p4), .val (.int p5), .unset, .unset, .unset, .unset, .unset] [(.int p5), (.int p4), (.int (2 : Int32))])) _
    refine Goes.via (fun t k => XS.iloadN X0.here hx rfl (hb hby at_6) rfl k) ?_
    show Goes p e below (s₁.setTop (mkF m 7 #[.val (.int p1), .val (.int p2), .val (.int p3), .val (.int p4), .val (.int p5), .unset, .unset, .unset, .unset, .unset] [(.int p2), (.int p5), (.int p4), (.int (2 : Int32))])) _
    refine Goes.via (fun t k => XS.iconst X0.here hx rfl (hb hby at_7) k) ?_
    show Goes p e below (s₁.setTop (mkF m 8 #[.val (.int p1), .val (.int p2), .val (.int p3), .val (.int p4), .val (.int p5), .unset, .unset, .unset, .unset, .unset] [(.int (2 : Int32)), (.int p2), (.int p5), (.int p4), (.int (2 : Int32))])) _
    refine Goes.via (fun t k => XS.iushr X0.here hx rfl (hb hby at_8) rfl k) ?_
    show Goes p e below (s₁.setTop (mkF m 9 #[.val (.int p1), .val (.int p2), .val (.int p3), .val (.int p4), .val (.int p5), .unset, .unset, .unset, .unset, .unset] [(.int ((p2.toUInt32 >>> ((2 : Int32) &&& 31).toUInt32).toInt32)), (.int p5), (.int p4), (.int (2 : Int32))])) _
    refine Goes.via (fun t k => XS.iconst X0.here hx rfl (hb hby at_9) k) ?_
    show Goes p e below (s₁.setTop (mkF m 10 #[.val (.int p1), .val (.int p2), .val (.int p3), .val (.int p4), .val (.int p5), .unset, .unset, .unset, .unset, .unset] [(.int (1 : Int32)), (.int ((p2.toUInt32 >>> ((2 : Int32) &&& 31).toUInt32).toInt32)), (.int p5), (.int p4), (.int (2 : Int32))])) _
    refine Goes.via (fun t k => XS.iand X0.here hx rfl (hb hby at_10) rfl k) ?_
    show Goes p e below (s₁.setTop (mkF m 11 #[.val (.int p1), .val (.int p2), .val (.int p3), .val (.int p4), .val (.int p5), .unset, .unset, .unset, .unset, .unset] [(.int (((p2.toUInt32 >>> ((2 : Int32) &&& 31).toUInt32).toInt32) &&& (1 : Int32))), (.int p5), (.int p4), (.int (2 : Int32))])) _
    refine Goes.via (next := s₁.setTop (mkF m 19 #[.val (.int p1), .val (.int p2), .val (.int p3), .val (.int p4), .val (.int p5), .unset, .unset, .unset, .unset, .unset] [(.int (v0_19_0 p2)), (.int p5), (.int p4), (.int (2 : Int32))])) (fun t k => ?_) ?_
    · by_cases hc11_69 : (((p2.toUInt32 >>> ((2 : Int32) &&& 31).toUInt32).toInt32) &&& (1 : Int32)) = (0 : Int32)
      · refine XS.ifYes X0.here hx rfl (pc0 := 11) (pc' := 18) rfl (hb hby at_11) rfl ((if0 _ _).trans (teq hc11_69).1) (by decide) (by decide) ?_
        show Steps p.tables e below (s₁.setTop (mkF m 18 #[.val (.int p1), .val (.int p2), .val (.int p3), .val (.int p4), .val (.int p5), .unset, .unset, .unset, .unset, .unset] [(.int p5), (.int p4), (.int (2 : Int32))])) _
        refine XS.iconst X0.here hx rfl (hb hby at_18) ?_
        show Steps p.tables e below (s₁.setTop (mkF m 19 #[.val (.int p1), .val (.int p2), .val (.int p3), .val (.int p4), .val (.int p5), .unset, .unset, .unset, .unset, .unset] [(.int (0 : Int32)), (.int p5), (.int p4), (.int (2 : Int32))])) _
        simpa only [v0_19_0, if_pos hc11_69] using k
      · refine XS.ifNo X0.here hx rfl (hb hby at_11) rfl ((if0 _ _).trans (feq hc11_69).1) ?_
        show Steps p.tables e below (s₁.setTop (mkF m 14 #[.val (.int p1), .val (.int p2), .val (.int p3), .val (.int p4), .val (.int p5), .unset, .unset, .unset, .unset, .unset] [(.int p5), (.int p4), (.int (2 : Int32))])) _
        refine XS.iconst X0.here hx rfl (hb hby at_14) ?_
        show Steps p.tables e below (s₁.setTop (mkF m 15 #[.val (.int p1), .val (.int p2), .val (.int p3), .val (.int p4), .val (.int p5), .unset, .unset, .unset, .unset, .unset] [(.int (1 : Int32)), (.int p5), (.int p4), (.int (2 : Int32))])) _
        refine XS.goto X0.here hx rfl (pc0 := 15) (pc' := 19) rfl (hb hby at_15) (by decide) (by decide) ?_
        show Steps p.tables e below (s₁.setTop (mkF m 19 #[.val (.int p1), .val (.int p2), .val (.int p3), .val (.int p4), .val (.int p5), .unset, .unset, .unset, .unset, .unset] [(.int (1 : Int32)), (.int p5), (.int p4), (.int (2 : Int32))])) _
        simpa only [v0_19_0, if_neg hc11_69] using k
    show Goes p e below (s₁.setTop (mkF m 19 #[.val (.int p1), .val (.int p2), .val (.int p3), .val (.int p4), .val (.int p5), .unset, .unset, .unset, .unset, .unset] [(.int (v0_19_0 p2)), (.int p5), (.int p4), (.int (2 : Int32))])) _
    obtain ⟨_, _, ⟨T70, L70, k70, n70⟩, -, X70, S70, sg70, ⟨Lc70, hQ70, l70, y70, z70⟩, st70⟩ := callSS X0 hx (y := (⟨"cascabel/model/selector/TypeSelectorIsUniversalPinLaw", "pick", "(IIIZ)Ljava/lang/String;"⟩ : MethodName)) hown (mvT hZ (hw _ (List.mem_of_getElem? (i := 0) rfl))) (mvT hZ (hw _ (List.mem_of_getElem? (i := 1) rfl))) (mvT hZ (hw _ (List.mem_of_getElem? (i := 2) rfl))) (mvT hZ (hw _ (List.mem_of_getElem? (i := 3) rfl))) (by decide) (ownBackS (W := 0) (I := fun vm => True) (rm1_2 l Z a0 hw [] p4 p5 (v0_19_0 p2) w0 h0 n0 Z0 O0 St) hZ (fun _ _ => trivial) (hw _ (List.mem_of_getElem? (i := 3) rfl)) (hw _ (List.mem_of_getElem? (i := 2) rfl)) (by decide) (by decide)) (g := (mkF m 19 #[.val (.int p1), .val (.int p2), .val (.int p3), .val (.int p4), .val (.int p5), .unset, .unset, .unset, .unset, .unset] [(.int (v0_19_0 p2)), (.int p5), (.int p4), (.int (2 : Int32))])) rfl (by rw [hml]; rfl) (argsL := [(.int (2 : Int32)), (.int p4), (.int p5), (.int (v0_19_0 p2))]) (rest := []) (lenOf pd_0_0 rfl) rfl (by show 2 * 0 + _ ≤ _; exact Nat.le_of_eq rfl) (hb hby at_19) (fun _ _ => ⟨rfl, e0, (by decide : 0 + 2 ≤ _), (by decide : 0 + 8 ≤ _)⟩)
    dsimp only [Pt.U, Pt.locs, Pt.cells, Pt.slots] at X70 l70 y70 z70 st70 hQ70 S70 sg70
    subst l70 y70 z70
    obtain ⟨X70f, hS70, hZ70, hown70⟩ := rebS hS hk X70 S70 (by rw [← e0]; exact sg70) hZ hown
    have X70 := X70f
    have hS := hS70
    have hZ := hZ70
    have hown := hown70
    have hk : T70.heap.size ≤ T70.heap.size := Nat.le_refl _
    obtain ⟨r70, rfl, N70q, Kc70⟩ := hQ70
    have K70 : Keep h0 T70.heap [] := (Keep.refl h0 []).trans Kc70 (fun x hx => nomatch hx)
    have Z70 : n0 ≤ T70.heap.size := Nat.le_trans Z0 Kc70.1
    have O70 := O0.keep Kc70 (fun x hx => nomatch hx)
    have N70 := Fr.app N0 N70q
    refine Goes.via (fun t k => st70.trans k) ?_
    show Goes p e below (T70.setTop (mkF m 22 #[.val (.int p1), .val (.int p2), .val (.int p3), .val (.int p4), .val (.int p5), .unset, .unset, .unset, .unset, .unset] [(.ref r70)])) _
    refine Goes.via (fun t k => XS.astore X70.here hx rfl (hb hby at_22) rfl rfl (l' := #[.val (.int p1), .val (.int p2), .val (.int p3), .val (.int p4), .val (.int p5), .val (.ref r70), .unset, .unset, .unset, .unset]) rfl k) ?_
    show Goes p e below (T70.setTop (mkF m 24 #[.val (.int p1), .val (.int p2), .val (.int p3), .val (.int p4), .val (.int p5), .val (.ref r70), .unset, .unset, .unset, .unset] [])) _
    refine Goes.via (fun t k => XS.iloadN X70.here hx rfl (hb hby at_24) rfl k) ?_
    show Goes p e below (T70.setTop (mkF m 25 #[.val (.int p1), .val (.int p2), .val (.int p3), .val (.int p4), .val (.int p5), .val (.ref r70), .unset, .unset, .unset, .unset] [(.int p3)])) _
    refine Goes.via (fun t k => XS.iconst X70.here hx rfl (hb hby at_25) k) ?_
    show Goes p e below (T70.setTop (mkF m 26 #[.val (.int p1), .val (.int p2), .val (.int p3), .val (.int p4), .val (.int p5), .val (.ref r70), .unset, .unset, .unset, .unset] [(.int (3 : Int32)), (.int p3)])) _
    refine Goes.via (fun t k => XS.iand X70.here hx rfl (hb hby at_26) rfl k) ?_
    show Goes p e below (T70.setTop (mkF m 27 #[.val (.int p1), .val (.int p2), .val (.int p3), .val (.int p4), .val (.int p5), .val (.ref r70), .unset, .unset, .unset, .unset] [(.int (p3 &&& (3 : Int32)))])) _
    rcases own_len p3 with hlB | hlB | hlB | hlB
    · rw [hlB]
      show Goes p e below (T70.setTop (mkF m 27 #[.val (.int p1), .val (.int p2), .val (.int p3), .val (.int p4), .val (.int p5), .val (.ref r70), .unset, .unset, .unset, .unset] [(.int (0 : Int32))])) _
      refine Goes.via (fun t k => XS.istore X70.here hx rfl (hb hby at_27) rfl (l' := #[.val (.int p1), .val (.int p2), .val (.int p3), .val (.int p4), .val (.int p5), .val (.ref r70), .val (.int (0 : Int32)), .unset, .unset, .unset]) rfl k) ?_
      show Goes p e below (T70.setTop (mkF m 29 #[.val (.int p1), .val (.int p2), .val (.int p3), .val (.int p4), .val (.int p5), .val (.ref r70), .val (.int (0 : Int32)), .unset, .unset, .unset] [])) _
      refine Goes.via (fun t k => XS.iload X70.here hx rfl (hb hby at_29) rfl k) ?_
      show Goes p e below (T70.setTop (mkF m 31 #[.val (.int p1), .val (.int p2), .val (.int p3), .val (.int p4), .val (.int p5), .val (.ref r70), .val (.int (0 : Int32)), .unset, .unset, .unset] [(.int (0 : Int32))])) _
      refine Goes.via (fun t k => XS.iloadN X70.here hx rfl (hb hby at_31) rfl k) ?_
      show Goes p e below (T70.setTop (mkF m 32 #[.val (.int p1), .val (.int p2), .val (.int p3), .val (.int p4), .val (.int p5), .val (.ref r70), .val (.int (0 : Int32)), .unset, .unset, .unset] [(.int p4), (.int (0 : Int32))])) _
      refine Goes.via (fun t k => XS.iload X70.here hx rfl (hb hby at_32) rfl k) ?_
      show Goes p e below (T70.setTop (mkF m 34 #[.val (.int p1), .val (.int p2), .val (.int p3), .val (.int p4), .val (.int p5), .val (.ref r70), .val (.int (0 : Int32)), .unset, .unset, .unset] [(.int p5), (.int p4), (.int (0 : Int32))])) _
      refine Goes.via (fun t k => XS.iloadN X70.here hx rfl (hb hby at_34) rfl k) ?_
      show Goes p e below (T70.setTop (mkF m 35 #[.val (.int p1), .val (.int p2), .val (.int p3), .val (.int p4), .val (.int p5), .val (.ref r70), .val (.int (0 : Int32)), .unset, .unset, .unset] [(.int p3), (.int p5), (.int p4), (.int (0 : Int32))])) _
      refine Goes.via (fun t k => XS.iconst X70.here hx rfl (hb hby at_35) k) ?_
      show Goes p e below (T70.setTop (mkF m 36 #[.val (.int p1), .val (.int p2), .val (.int p3), .val (.int p4), .val (.int p5), .val (.ref r70), .val (.int (0 : Int32)), .unset, .unset, .unset] [(.int (2 : Int32)), (.int p3), (.int p5), (.int p4), (.int (0 : Int32))])) _
      refine Goes.via (fun t k => XS.iushr X70.here hx rfl (hb hby at_36) rfl k) ?_
      show Goes p e below (T70.setTop (mkF m 37 #[.val (.int p1), .val (.int p2), .val (.int p3), .val (.int p4), .val (.int p5), .val (.ref r70), .val (.int (0 : Int32)), .unset, .unset, .unset] [(.int ((p3.toUInt32 >>> ((2 : Int32) &&& 31).toUInt32).toInt32)), (.int p5), (.int p4), (.int (0 : Int32))])) _
      refine Goes.via (fun t k => XS.iconst X70.here hx rfl (hb hby at_37) k) ?_
      show Goes p e below (T70.setTop (mkF m 38 #[.val (.int p1), .val (.int p2), .val (.int p3), .val (.int p4), .val (.int p5), .val (.ref r70), .val (.int (0 : Int32)), .unset, .unset, .unset] [(.int (1 : Int32)), (.int ((p3.toUInt32 >>> ((2 : Int32) &&& 31).toUInt32).toInt32)), (.int p5), (.int p4), (.int (0 : Int32))])) _
      refine Goes.via (fun t k => XS.iand X70.here hx rfl (hb hby at_38) rfl k) ?_
      show Goes p e below (T70.setTop (mkF m 39 #[.val (.int p1), .val (.int p2), .val (.int p3), .val (.int p4), .val (.int p5), .val (.ref r70), .val (.int (0 : Int32)), .unset, .unset, .unset] [(.int (((p3.toUInt32 >>> ((2 : Int32) &&& 31).toUInt32).toInt32) &&& (1 : Int32))), (.int p5), (.int p4), (.int (0 : Int32))])) _
      refine Goes.via (next := T70.setTop (mkF m 47 #[.val (.int p1), .val (.int p2), .val (.int p3), .val (.int p4), .val (.int p5), .val (.ref r70), .val (.int (0 : Int32)), .unset, .unset, .unset] [(.int (v0_47_1 p3)), (.int p5), (.int p4), (.int (0 : Int32))])) (fun t k => ?_) ?_
      · by_cases hc39_71 : (((p3.toUInt32 >>> ((2 : Int32) &&& 31).toUInt32).toInt32) &&& (1 : Int32)) = (0 : Int32)
        · refine XS.ifYes X70.here hx rfl (pc0 := 39) (pc' := 46) rfl (hb hby at_39) rfl ((if0 _ _).trans (teq hc39_71).1) (by decide) (by decide) ?_
          show Steps p.tables e below (T70.setTop (mkF m 46 #[.val (.int p1), .val (.int p2), .val (.int p3), .val (.int p4), .val (.int p5), .val (.ref r70), .val (.int (0 : Int32)), .unset, .unset, .unset] [(.int p5), (.int p4), (.int (0 : Int32))])) _
          refine XS.iconst X70.here hx rfl (hb hby at_46) ?_
          show Steps p.tables e below (T70.setTop (mkF m 47 #[.val (.int p1), .val (.int p2), .val (.int p3), .val (.int p4), .val (.int p5), .val (.ref r70), .val (.int (0 : Int32)), .unset, .unset, .unset] [(.int (0 : Int32)), (.int p5), (.int p4), (.int (0 : Int32))])) _
          simpa only [v0_47_1, if_pos hc39_71] using k
        · refine XS.ifNo X70.here hx rfl (hb hby at_39) rfl ((if0 _ _).trans (feq hc39_71).1) ?_
          show Steps p.tables e below (T70.setTop (mkF m 42 #[.val (.int p1), .val (.int p2), .val (.int p3), .val (.int p4), .val (.int p5), .val (.ref r70), .val (.int (0 : Int32)), .unset, .unset, .unset] [(.int p5), (.int p4), (.int (0 : Int32))])) _
          refine XS.iconst X70.here hx rfl (hb hby at_42) ?_
          show Steps p.tables e below (T70.setTop (mkF m 43 #[.val (.int p1), .val (.int p2), .val (.int p3), .val (.int p4), .val (.int p5), .val (.ref r70), .val (.int (0 : Int32)), .unset, .unset, .unset] [(.int (1 : Int32)), (.int p5), (.int p4), (.int (0 : Int32))])) _
          refine XS.goto X70.here hx rfl (pc0 := 43) (pc' := 47) rfl (hb hby at_43) (by decide) (by decide) ?_
          show Steps p.tables e below (T70.setTop (mkF m 47 #[.val (.int p1), .val (.int p2), .val (.int p3), .val (.int p4), .val (.int p5), .val (.ref r70), .val (.int (0 : Int32)), .unset, .unset, .unset] [(.int (1 : Int32)), (.int p5), (.int p4), (.int (0 : Int32))])) _
          simpa only [v0_47_1, if_neg hc39_71] using k
      show Goes p e below (T70.setTop (mkF m 47 #[.val (.int p1), .val (.int p2), .val (.int p3), .val (.int p4), .val (.int p5), .val (.ref r70), .val (.int (0 : Int32)), .unset, .unset, .unset] [(.int (v0_47_1 p3)), (.int p5), (.int p4), (.int (0 : Int32))])) _
      obtain ⟨Lw72, X72w, N72w⟩ := ownPack X70 N70
      obtain ⟨_, _, ⟨T73, L73, k73, n73⟩, -, X73, ⟨Lc73, hQ73, l73, y73, z73⟩, st73⟩ := Jvm.LawKit.callS X72w hx (y := (⟨"cascabel/model/selector/TypeSelectorIsUniversalPinLaw", "pick", "(IIIZ)Ljava/lang/String;"⟩ : MethodName)) hown (mvT hZ (hw _ (List.mem_of_getElem? (i := 0) rfl))) (mvT hZ (hw _ (List.mem_of_getElem? (i := 1) rfl))) (mvT hZ (hw _ (List.mem_of_getElem? (i := 2) rfl))) (mvT hZ (hw _ (List.mem_of_getElem? (i := 3) rfl))) (by decide) (backOf (W := 0) (rm1_0 l Z a0 hw [] p4 p5 (v0_47_1 p3)  T70.heap n0 Z70 ) hZ (hw _ (List.mem_of_getElem? (i := 3) rfl)) (hw _ (List.mem_of_getElem? (i := 2) rfl)) (by decide) (by decide)) (g := (mkF m 47 #[.val (.int p1), .val (.int p2), .val (.int p3), .val (.int p4), .val (.int p5), .val (.ref r70), .val (.int (0 : Int32)), .unset, .unset, .unset] [(.int (v0_47_1 p3)), (.int p5), (.int p4), (.int (0 : Int32))])) rfl (by rw [hml]; rfl) (argsL := [(.int (0 : Int32)), (.int p4), (.int p5), (.int (v0_47_1 p3))]) (rest := []) (lenOf pd_0_0 rfl) rfl (by show 2 * 0 + _ ≤ _; exact Nat.le_of_eq rfl) (hb hby at_47) (fun _ _ => ⟨rfl, rfl, (by decide : 2 + 0 ≤ _), (by decide : 8 + 0 ≤ _)⟩)
      dsimp only [Pt.U, Pt.locs, Pt.cells, Pt.slots] at X73 l73 y73 z73 st73 hQ73
      subst l73 y73 z73
      obtain ⟨rfl, N73q, er73⟩ := hQ73
      have e73 : T73.heap = T70.heap := er73
      have N73 := Fr.app N72w N73q
      refine Goes.via st73 ?_
      show Goes p e below (T73.setTop (mkF m 50 #[.val (.int p1), .val (.int p2), .val (.int p3), .val (.int p4), .val (.int p5), .val (.ref r70), .val (.int (0 : Int32)), .unset, .unset, .unset] [.null])) _
      refine Goes.via (fun t k => XS.astore X73.here hx rfl (hb hby at_50) rfl rfl (l' := #[.val (.int p1), .val (.int p2), .val (.int p3), .val (.int p4), .val (.int p5), .val (.ref r70), .val (.int (0 : Int32)), .val .null, .unset, .unset]) rfl k) ?_
      show Goes p e below (T73.setTop (mkF m 52 #[.val (.int p1), .val (.int p2), .val (.int p3), .val (.int p4), .val (.int p5), .val (.ref r70), .val (.int (0 : Int32)), .val .null, .unset, .unset] [])) _
      obtain ⟨T74, h74, X74, e74, E74, A74, D74, -, st74⟩ := newO X73 hx hZ hown (hw _ (List.mem_of_getElem? (i := 38) rfl)) (hw _ (List.mem_of_getElem? (i := 39) rfl)) (hw _ (List.mem_of_getElem? (i := 40) rfl)) e73 (g := (mkF m 52 #[.val (.int p1), .val (.int p2), .val (.int p3), .val (.int p4), .val (.int p5), .val (.ref r70), .val (.int (0 : Int32)), .val .null, .unset, .unset] [])) rfl (hb hby at_52) (by decide) (by decide)
      obtain ⟨b74, g74⟩ : ∃ z, z = T70.heap.size := ⟨_, rfl⟩
      rw [← g74] at A74 D74 st74
      have ge_b74 : n0 ≤ b74 := Nat.le_trans Z70 (Nat.le_of_eq g74.symm)
      have sz_b74 : h0.size ≤ b74 := Nat.le_trans K70.1 (Nat.le_of_eq g74.symm)
      have K74 : Keep h0 h74 [] := K70.ext E74
      have Z74 : n0 ≤ h74.size := Nat.le_trans Z70 E74.1
      have O74 := O70.ext E74
      have hk := Nat.le_trans hk E74.1
      have F74_offset : Fld Z h74 b74 "cascabel/model/selector/TypeSelector" "offset" "I" (.int (0 : Int32)) := D74 (Or.inr (hw _ (List.mem_of_getElem? (i := 51) rfl))) (ty := .int) (by decide)
      have F74_namespace : Fld Z h74 b74 "cascabel/model/selector/TypeSelector" "namespace" "Ljava/lang/String;" .null := D74 (Or.inr (hw _ (List.mem_of_getElem? (i := 53) rfl))) (ty := (.object "java/lang/String")) (by decide)
      have F74_name : Fld Z h74 b74 "cascabel/model/selector/TypeSelector" "name" "Ljava/lang/String;" .null := D74 (Or.inr (hw _ (List.mem_of_getElem? (i := 55) rfl))) (ty := (.object "java/lang/String")) (by decide)
      refine Goes.via st74 ?_
      show Goes p e below (T74.setTop (mkF m 55 #[.val (.int p1), .val (.int p2), .val (.int p3), .val (.int p4), .val (.int p5), .val (.ref r70), .val (.int (0 : Int32)), .val .null, .unset, .unset] [(.ref b74)])) _
      refine Goes.via (fun t k => XS.dup X74.here hx rfl (hb hby at_55) rfl rfl k) ?_
      show Goes p e below (T74.setTop (mkF m 56 #[.val (.int p1), .val (.int p2), .val (.int p3), .val (.int p4), .val (.int p5), .val (.ref r70), .val (.int (0 : Int32)), .val .null, .unset, .unset] [(.ref b74), (.ref b74)])) _
      refine Goes.via (fun t k => XS.iloadN X74.here hx rfl (hb hby at_56) rfl k) ?_
      show Goes p e below (T74.setTop (mkF m 57 #[.val (.int p1), .val (.int p2), .val (.int p3), .val (.int p4), .val (.int p5), .val (.ref r70), .val (.int (0 : Int32)), .val .null, .unset, .unset] [(.int p1), (.ref b74), (.ref b74)])) _
      refine Goes.via (fun t k => XS.aload X74.here hx rfl (hb hby at_57) rfl rfl k) ?_
      show Goes p e below (T74.setTop (mkF m 59 #[.val (.int p1), .val (.int p2), .val (.int p3), .val (.int p4), .val (.int p5), .val (.ref r70), .val (.int (0 : Int32)), .val .null, .unset, .unset] [(.ref r70), (.int p1), (.ref b74), (.ref b74)])) _
      refine Goes.via (fun t k => XS.aload X74.here hx rfl (hb hby at_59) rfl rfl k) ?_
      show Goes p e below (T74.setTop (mkF m 61 #[.val (.int p1), .val (.int p2), .val (.int p3), .val (.int p4), .val (.int p5), .val (.ref r70), .val (.int (0 : Int32)), .val .null, .unset, .unset] [.null, (.ref r70), (.int p1), (.ref b74), (.ref b74)])) _
      obtain ⟨Lw75, X75w, N75w⟩ := ownPack X74 N73
      obtain ⟨_, _, ⟨T76, L76, k76, n76⟩, -, X76, ⟨Lc76, hQ76, l76, y76, z76⟩, st76⟩ := X75w.specialBack hx (y := (⟨"cascabel/model/selector/TypeSelector", "<init>", "(ILjava/lang/String;Ljava/lang/String;)V"⟩ : MethodName)) rfl hown (mvT hZ (hw _ (List.mem_of_getElem? (i := 41) rfl))) (mvT hZ (hw _ (List.mem_of_getElem? (i := 42) rfl))) (mvT hZ (hw _ (List.mem_of_getElem? (i := 43) rfl))) (by decide) (backOf (W := 1) (rm8_10 l Z a0 hw [] b74 p1 r70  h74 n0 Z74 A74 F74_offset F74_namespace F74_name ge_b74) hZ (hw _ (List.mem_of_getElem? (i := 43) rfl)) (hw _ (List.mem_of_getElem? (i := 40) rfl)) (by decide) (by decide)) (g := (mkF m 61 #[.val (.int p1), .val (.int p2), .val (.int p3), .val (.int p4), .val (.int p5), .val (.ref r70), .val (.int (0 : Int32)), .val .null, .unset, .unset] [.null, (.ref r70), (.int p1), (.ref b74), (.ref b74)])) rfl (by rw [hml]; rfl) (Steps.refl _) (a := b74) (argsL := [(.int p1), (.ref r70), .null]) (rest := [(.ref b74)]) (lenOf pd_0_1 rfl) rfl (by show 2 * 0 + _ ≤ _; exact Nat.le_of_eq rfl) (hb hby at_61) (fun _ _ => ⟨rfl, e74, (by decide : 3 + 0 ≤ _), (by decide : 11 + 0 ≤ _)⟩)
      dsimp only [Pt.U, Pt.locs, Pt.cells, Pt.slots] at X76 l76 y76 z76 st76 hQ76
      subst l76 y76 z76
      obtain ⟨rfl, N76q, Kc76, Ec76, Fn76⟩ := hQ76
      have F76_38 := A74.keep Kc76
      have K76 : Keep h0 T76.heap [] := K74.trans Kc76 (fun x hx => by cases List.mem_singleton.mp hx; exact Or.inr sz_b74)
      have Z76 : n0 ≤ T76.heap.size := Nat.le_trans Z74 Kc76.1
      have O76 := O74.keep Kc76 (fun x hx => by cases List.mem_singleton.mp hx; exact ge_b74)
      have hk := Nat.le_trans hk Kc76.1
      have N76 := Fr.app N75w N76q
      refine Goes.via (fun t k => st76.trans k) ?_
      show Goes p e below (T76.setTop (mkF m 64 #[.val (.int p1), .val (.int p2), .val (.int p3), .val (.int p4), .val (.int p5), .val (.ref r70), .val (.int (0 : Int32)), .val .null, .unset, .unset] [(.ref b74)])) _
      refine Goes.via (fun t k => XS.astore X76.here hx rfl (hb hby at_64) rfl rfl (l' := #[.val (.int p1), .val (.int p2), .val (.int p3), .val (.int p4), .val (.int p5), .val (.ref r70), .val (.int (0 : Int32)), .val .null, .val (.ref b74), .unset]) rfl k) ?_
      show Goes p e below (T76.setTop (mkF m 66 #[.val (.int p1), .val (.int p2), .val (.int p3), .val (.int p4), .val (.int p5), .val (.ref r70), .val (.int (0 : Int32)), .val .null, .val (.ref b74), .unset] [])) _
      refine Goes.via (fun t k => XS.iload X76.here hx rfl (hb hby at_66) rfl k) ?_
      show Goes p e below (T76.setTop (mkF m 68 #[.val (.int p1), .val (.int p2), .val (.int p3), .val (.int p4), .val (.int p5), .val (.ref r70), .val (.int (0 : Int32)), .val .null, .val (.ref b74), .unset] [(.int (0 : Int32))])) _
      refine Goes.via (fun t k => XS.ifNo X76.here hx rfl (hb hby at_68) rfl ((if0 _ _).trans (teq (show (0 : Int32) = (0 : Int32) from rfl)).2) k) ?_
      show Goes p e below (T76.setTop (mkF m 71 #[.val (.int p1), .val (.int p2), .val (.int p3), .val (.int p4), .val (.int p5), .val (.ref r70), .val (.int (0 : Int32)), .val .null, .val (.ref b74), .unset] [])) _
      refine Goes.via (fun t k => XS.iconst X76.here hx rfl (hb hby at_71) k) ?_
      show Goes p e below (T76.setTop (mkF m 72 #[.val (.int p1), .val (.int p2), .val (.int p3), .val (.int p4), .val (.int p5), .val (.ref r70), .val (.int (0 : Int32)), .val .null, .val (.ref b74), .unset] [(.int (1 : Int32))])) _
      refine Goes.via (fun t k => XS.goto X76.here hx rfl (pc0 := 72) (pc' := 76) rfl (hb hby at_72) (by decide) (by decide) k) ?_
      show Goes p e below (T76.setTop (mkF m 76 #[.val (.int p1), .val (.int p2), .val (.int p3), .val (.int p4), .val (.int p5), .val (.ref r70), .val (.int (0 : Int32)), .val .null, .val (.ref b74), .unset] [(.int (1 : Int32))])) _
      refine Goes.via (fun t k => XS.istore X76.here hx rfl (hb hby at_76) rfl (l' := #[.val (.int p1), .val (.int p2), .val (.int p3), .val (.int p4), .val (.int p5), .val (.ref r70), .val (.int (0 : Int32)), .val .null, .val (.ref b74), .val (.int (1 : Int32))]) rfl k) ?_
      show Goes p e below (T76.setTop (mkF m 78 #[.val (.int p1), .val (.int p2), .val (.int p3), .val (.int p4), .val (.int p5), .val (.ref r70), .val (.int (0 : Int32)), .val .null, .val (.ref b74), .val (.int (1 : Int32))] [])) _
      refine Goes.via (fun t k => XS.aload X76.here hx rfl (hb hby at_78) rfl rfl k) ?_
      show Goes p e below (T76.setTop (mkF m 80 #[.val (.int p1), .val (.int p2), .val (.int p3), .val (.int p4), .val (.int p5), .val (.ref r70), .val (.int (0 : Int32)), .val .null, .val (.ref b74), .val (.int (1 : Int32))] [(.ref b74)])) _
      try clear Ec76; try clear Kc76; try clear N76q; try clear st76; try clear z76; try clear y76; try clear l76; try clear hQ76; try clear Lc76; try clear n76; try clear k76; try clear L76
      try clear N75w; try clear X75w; try clear Lw75; try clear F74_name; try clear F74_namespace; try clear F74_offset; try clear O74; try clear Z74; try clear K74; try clear size; try clear g74; try clear st74
      try clear D74; try clear A74; try clear E74; try clear e74; try clear X74; try clear h74; try clear T74; try clear N73; try clear e73; try clear er73; try clear N73q; try clear st73
      try clear z73; try clear y73; try clear l73; try clear hQ73; try clear Lc73; try clear X73; try clear n73; try clear k73; try clear L73; try clear T73; try clear N72w; try clear X72w
      try clear Lw72; try clear N70; try clear O70; try clear Z70; try clear K70; try clear Kc70; try clear N70q; try clear hown70; try clear hZ70; try clear hS70; try clear X70f; try clear st70
      try clear z70; try clear y70; try clear l70; try clear hQ70; try clear Lc70; try clear sg70; try clear S70; try clear X70; try clear n70; try clear k70; try clear L70; try clear T70
      obtain ⟨Lw77, X77w, N77w⟩ := ownPack X76 N76
      obtain ⟨cq78, kq78, q78a, q78b, q78c⟩ := isOf hZ rfl F76_38
      obtain ⟨_, _, ⟨T78, L78, k78, n78⟩, -, X78, ⟨Lc78, hQ78, l78, y78, z78⟩, st78⟩ := X77w.virtualBack hx (y := (⟨"cascabel/model/selector/TypeSelector", "isUniversal", "()Z"⟩ : MethodName)) (z := (⟨"cascabel/model/selector/TypeSelector", "isUniversal", "()Z"⟩ : MethodName)) hown (mvT hZ (hw _ (List.mem_of_getElem? (i := 56) rfl))) (mvT hZ (hw _ (List.mem_of_getElem? (i := 57) rfl))) (notFace_of_selects (args := #[]) (mvT hZ (hw _ (List.mem_of_getElem? (i := 59) rfl)))) (mvT hZ (hw _ (List.mem_of_getElem? (i := 59) rfl))) (mvT hZ (hw _ (List.mem_of_getElem? (i := 58) rfl))) (by decide) (backOf (W := 0) (rm10_0 l Z a0 hw [] b74  T76.heap n0 Z76 Fn76) hZ (hw _ (List.mem_of_getElem? (i := 60) rfl)) (hw _ (List.mem_of_getElem? (i := 40) rfl)) (by decide) (by decide)) q78a q78c (g := (mkF m 80 #[.val (.int p1), .val (.int p2), .val (.int p3), .val (.int p4), .val (.int p5), .val (.ref r70), .val (.int (0 : Int32)), .val .null, .val (.ref b74), .val (.int (1 : Int32))] [(.ref b74)])) rfl (by rw [hml]; rfl) (Steps.refl _) (argsL := []) (rest := []) (lenOf pd_0_2 rfl) rfl (by show 2 * 0 + _ ≤ _; exact Nat.le_of_eq rfl) (hb hby at_80) (fun _ _ => ⟨rfl, rfl, (by decide : 3 + 0 ≤ _), (by decide : 11 + 0 ≤ _)⟩)
      dsimp only [Pt.U, Pt.locs, Pt.cells, Pt.slots] at X78 l78 y78 z78 st78 hQ78
      subst l78 y78 z78
      obtain ⟨rfl, N78q, er78⟩ := hQ78
      have e78 : T78.heap = T76.heap := er78
      have N78 := Fr.app N77w N78q
      refine Goes.via (fun t k => st78.trans k) ?_
      show Goes p e below (T78.setTop (mkF m 83 #[.val (.int p1), .val (.int p2), .val (.int p3), .val (.int p4), .val (.int p5), .val (.ref r70), .val (.int (0 : Int32)), .val .null, .val (.ref b74), .val (.int (1 : Int32))] [(.int (1 : Int32))])) _
      refine Goes.via (fun t k => XS.iload X78.here hx rfl (hb hby at_83) rfl k) ?_
      show Goes p e below (T78.setTop (mkF m 85 #[.val (.int p1), .val (.int p2), .val (.int p3), .val (.int p4), .val (.int p5), .val (.ref r70), .val (.int (0 : Int32)), .val .null, .val (.ref b74), .val (.int (1 : Int32))] [(.int (1 : Int32)), (.int (1 : Int32))])) _
      refine Goes.via (fun t k => XS.icmpNo X78.here hx rfl (hb hby at_85) rfl (teq (show (1 : Int32) = (1 : Int32) from rfl)).2 k) ?_
      show Goes p e below (T78.setTop (mkF m 88 #[.val (.int p1), .val (.int p2), .val (.int p3), .val (.int p4), .val (.int p5), .val (.ref r70), .val (.int (0 : Int32)), .val .null, .val (.ref b74), .val (.int (1 : Int32))] [])) _
      refine Goes.via (fun t k => XS.iconst X78.here hx rfl (hb hby at_88) k) ?_
      show Goes p e below (T78.setTop (mkF m 89 #[.val (.int p1), .val (.int p2), .val (.int p3), .val (.int p4), .val (.int p5), .val (.ref r70), .val (.int (0 : Int32)), .val .null, .val (.ref b74), .val (.int (1 : Int32))] [(.int (1 : Int32))])) _
      refine Goes.via (fun t k => XS.goto X78.here hx rfl (pc0 := 89) (pc' := 93) rfl (hb hby at_89) (by decide) (by decide) k) ?_
      show Goes p e below (T78.setTop (mkF m 93 #[.val (.int p1), .val (.int p2), .val (.int p3), .val (.int p4), .val (.int p5), .val (.ref r70), .val (.int (0 : Int32)), .val .null, .val (.ref b74), .val (.int (1 : Int32))] [(.int (1 : Int32))])) _
      obtain ⟨fs, hr, hrun, hended, hRE⟩ := X78.leaveW hS (by rw [e78]; exact hk) (v := some (.int (1 : Int32))) (fun h => by rw [Bd.returns] at h; cases h)
      refine ⟨_, _, ?_, hrun, hended, _, _, rfl, ?_, hRE.1, hRE.2.1, hRE.2.2.1, hRE.2.2.2.mono (by decide) (by decide)⟩
      · exact retN X78 hx (t := .boolean) Bd.returns (by simp) (hb hby at_93) hr
      · show Q0 Z  h0 n0 _ T78.heap _ _
        rw [e78]
        exact ⟨rfl, N78⟩
    · rw [hlB]
      show Goes p e below (T70.setTop (mkF m 27 #[.val (.int p1), .val (.int p2), .val (.int p3), .val (.int p4), .val (.int p5), .val (.ref r70), .unset, .unset, .unset, .unset] [(.int (1 : Int32))])) _
      refine Goes.via (fun t k => XS.istore X70.here hx rfl (hb hby at_27) rfl (l' := #[.val (.int p1), .val (.int p2), .val (.int p3), .val (.int p4), .val (.int p5), .val (.ref r70), .val (.int (1 : Int32)), .unset, .unset, .unset]) rfl k) ?_
      show Goes p e below (T70.setTop (mkF m 29 #[.val (.int p1), .val (.int p2), .val (.int p3), .val (.int p4), .val (.int p5), .val (.ref r70), .val (.int (1 : Int32)), .unset, .unset, .unset] [])) _
      refine Goes.via (fun t k => XS.iload X70.here hx rfl (hb hby at_29) rfl k) ?_
      show Goes p e below (T70.setTop (mkF m 31 #[.val (.int p1), .val (.int p2), .val (.int p3), .val (.int p4), .val (.int p5), .val (.ref r70), .val (.int (1 : Int32)), .unset, .unset, .unset] [(.int (1 : Int32))])) _
      refine Goes.via (fun t k => XS.iloadN X70.here hx rfl (hb hby at_31) rfl k) ?_
      show Goes p e below (T70.setTop (mkF m 32 #[.val (.int p1), .val (.int p2), .val (.int p3), .val (.int p4), .val (.int p5), .val (.ref r70), .val (.int (1 : Int32)), .unset, .unset, .unset] [(.int p4), (.int (1 : Int32))])) _
      refine Goes.via (fun t k => XS.iload X70.here hx rfl (hb hby at_32) rfl k) ?_
      show Goes p e below (T70.setTop (mkF m 34 #[.val (.int p1), .val (.int p2), .val (.int p3), .val (.int p4), .val (.int p5), .val (.ref r70), .val (.int (1 : Int32)), .unset, .unset, .unset] [(.int p5), (.int p4), (.int (1 : Int32))])) _
      refine Goes.via (fun t k => XS.iloadN X70.here hx rfl (hb hby at_34) rfl k) ?_
      show Goes p e below (T70.setTop (mkF m 35 #[.val (.int p1), .val (.int p2), .val (.int p3), .val (.int p4), .val (.int p5), .val (.ref r70), .val (.int (1 : Int32)), .unset, .unset, .unset] [(.int p3), (.int p5), (.int p4), (.int (1 : Int32))])) _
      refine Goes.via (fun t k => XS.iconst X70.here hx rfl (hb hby at_35) k) ?_
      show Goes p e below (T70.setTop (mkF m 36 #[.val (.int p1), .val (.int p2), .val (.int p3), .val (.int p4), .val (.int p5), .val (.ref r70), .val (.int (1 : Int32)), .unset, .unset, .unset] [(.int (2 : Int32)), (.int p3), (.int p5), (.int p4), (.int (1 : Int32))])) _
      refine Goes.via (fun t k => XS.iushr X70.here hx rfl (hb hby at_36) rfl k) ?_
      show Goes p e below (T70.setTop (mkF m 37 #[.val (.int p1), .val (.int p2), .val (.int p3), .val (.int p4), .val (.int p5), .val (.ref r70), .val (.int (1 : Int32)), .unset, .unset, .unset] [(.int ((p3.toUInt32 >>> ((2 : Int32) &&& 31).toUInt32).toInt32)), (.int p5), (.int p4), (.int (1 : Int32))])) _
      refine Goes.via (fun t k => XS.iconst X70.here hx rfl (hb hby at_37) k) ?_
      show Goes p e below (T70.setTop (mkF m 38 #[.val (.int p1), .val (.int p2), .val (.int p3), .val (.int p4), .val (.int p5), .val (.ref r70), .val (.int (1 : Int32)), .unset, .unset, .unset] [(.int (1 : Int32)), (.int ((p3.toUInt32 >>> ((2 : Int32) &&& 31).toUInt32).toInt32)), (.int p5), (.int p4), (.int (1 : Int32))])) _
      refine Goes.via (fun t k => XS.iand X70.here hx rfl (hb hby at_38) rfl k) ?_
      show Goes p e below (T70.setTop (mkF m 39 #[.val (.int p1), .val (.int p2), .val (.int p3), .val (.int p4), .val (.int p5), .val (.ref r70), .val (.int (1 : Int32)), .unset, .unset, .unset] [(.int (((p3.toUInt32 >>> ((2 : Int32) &&& 31).toUInt32).toInt32) &&& (1 : Int32))), (.int p5), (.int p4), (.int (1 : Int32))])) _
      refine Goes.via (next := T70.setTop (mkF m 47 #[.val (.int p1), .val (.int p2), .val (.int p3), .val (.int p4), .val (.int p5), .val (.ref r70), .val (.int (1 : Int32)), .unset, .unset, .unset] [(.int (v0_47_1 p3)), (.int p5), (.int p4), (.int (1 : Int32))])) (fun t k => ?_) ?_
      · by_cases hc39_79 : (((p3.toUInt32 >>> ((2 : Int32) &&& 31).toUInt32).toInt32) &&& (1 : Int32)) = (0 : Int32)
        · refine XS.ifYes X70.here hx rfl (pc0 := 39) (pc' := 46) rfl (hb hby at_39) rfl ((if0 _ _).trans (teq hc39_79).1) (by decide) (by decide) ?_
          show Steps p.tables e below (T70.setTop (mkF m 46 #[.val (.int p1), .val (.int p2), .val (.int p3), .val (.int p4), .val (.int p5), .val (.ref r70), .val (.int (1 : Int32)), .unset, .unset, .unset] [(.int p5), (.int p4), (.int (1 : Int32))])) _
          refine XS.iconst X70.here hx rfl (hb hby at_46) ?_
          show Steps p.tables e below (T70.setTop (mkF m 47 #[.val (.int p1), .val (.int p2), .val (.int p3), .val (.int p4), .val (.int p5), .val (.ref r70), .val (.int (1 : Int32)), .unset, .unset, .unset] [(.int (0 : Int32)), (.int p5), (.int p4), (.int (1 : Int32))])) _
          simpa only [v0_47_1, if_pos hc39_79] using k
        · refine XS.ifNo X70.here hx rfl (hb hby at_39) rfl ((if0 _ _).trans (feq hc39_79).1) ?_
          show Steps p.tables e below (T70.setTop (mkF m 42 #[.val (.int p1), .val (.int p2), .val (.int p3), .val (.int p4), .val (.int p5), .val (.ref r70), .val (.int (1 : Int32)), .unset, .unset, .unset] [(.int p5), (.int p4), (.int (1 : Int32))])) _
          refine XS.iconst X70.here hx rfl (hb hby at_42) ?_
          show Steps p.tables e below (T70.setTop (mkF m 43 #[.val (.int p1), .val (.int p2), .val (.int p3), .val (.int p4), .val (.int p5), .val (.ref r70), .val (.int (1 : Int32)), .unset, .unset, .unset] [(.int (1 : Int32)), (.int p5), (.int p4), (.int (1 : Int32))])) _
          refine XS.goto X70.here hx rfl (pc0 := 43) (pc' := 47) rfl (hb hby at_43) (by decide) (by decide) ?_
          show Steps p.tables e below (T70.setTop (mkF m 47 #[.val (.int p1), .val (.int p2), .val (.int p3), .val (.int p4), .val (.int p5), .val (.ref r70), .val (.int (1 : Int32)), .unset, .unset, .unset] [(.int (1 : Int32)), (.int p5), (.int p4), (.int (1 : Int32))])) _
          simpa only [v0_47_1, if_neg hc39_79] using k
      show Goes p e below (T70.setTop (mkF m 47 #[.val (.int p1), .val (.int p2), .val (.int p3), .val (.int p4), .val (.int p5), .val (.ref r70), .val (.int (1 : Int32)), .unset, .unset, .unset] [(.int (v0_47_1 p3)), (.int p5), (.int p4), (.int (1 : Int32))])) _
      obtain ⟨Lw80, X80w, N80w⟩ := ownPack X70 N70
      obtain ⟨_, _, ⟨T81, L81, k81, n81⟩, -, X81, S81, sg81, ⟨Lc81, hQ81, l81, y81, z81⟩, st81⟩ := callSS X80w hx (y := (⟨"cascabel/model/selector/TypeSelectorIsUniversalPinLaw", "pick", "(IIIZ)Ljava/lang/String;"⟩ : MethodName)) hown (mvT hZ (hw _ (List.mem_of_getElem? (i := 0) rfl))) (mvT hZ (hw _ (List.mem_of_getElem? (i := 1) rfl))) (mvT hZ (hw _ (List.mem_of_getElem? (i := 2) rfl))) (mvT hZ (hw _ (List.mem_of_getElem? (i := 3) rfl))) (by decide) (ownBackS (W := 0) (I := fun vm => True) (rm1_1 l Z a0 hw [] p4 p5 (v0_47_1 p3) w0 T70.heap n0 Z70 O70 St) hZ (fun _ _ => trivial) (hw _ (List.mem_of_getElem? (i := 3) rfl)) (hw _ (List.mem_of_getElem? (i := 2) rfl)) (by decide) (by decide)) (g := (mkF m 47 #[.val (.int p1), .val (.int p2), .val (.int p3), .val (.int p4), .val (.int p5), .val (.ref r70), .val (.int (1 : Int32)), .unset, .unset, .unset] [(.int (v0_47_1 p3)), (.int p5), (.int p4), (.int (1 : Int32))])) rfl (by rw [hml]; rfl) (argsL := [(.int (1 : Int32)), (.int p4), (.int p5), (.int (v0_47_1 p3))]) (rest := []) (lenOf pd_0_0 rfl) rfl (by show 2 * 0 + _ ≤ _; exact Nat.le_of_eq rfl) (hb hby at_47) (fun _ _ => ⟨rfl, rfl, (by decide : 2 + 2 ≤ _), (by decide : 8 + 4 ≤ _)⟩)
      dsimp only [Pt.U, Pt.locs, Pt.cells, Pt.slots] at X81 l81 y81 z81 st81 hQ81 S81 sg81
      subst l81 y81 z81
      obtain ⟨X81f, hS81, hZ81, hown81⟩ := rebS hS hk X81 S81 sg81 hZ hown
      have X81 := X81f
      have hS := hS81
      have hZ := hZ81
      have hown := hown81
      have hk : T81.heap.size ≤ T81.heap.size := Nat.le_refl _
      obtain ⟨r81, rfl, N81q, Kc81⟩ := hQ81
      have K81 : Keep h0 T81.heap [] := K70.trans Kc81 (fun x hx => nomatch hx)
      have Z81 : n0 ≤ T81.heap.size := Nat.le_trans Z70 Kc81.1
      have O81 := O70.keep Kc81 (fun x hx => nomatch hx)
      have N81 := Fr.app N80w N81q
      refine Goes.via (fun t k => st81.trans k) ?_
      show Goes p e below (T81.setTop (mkF m 50 #[.val (.int p1), .val (.int p2), .val (.int p3), .val (.int p4), .val (.int p5), .val (.ref r70), .val (.int (1 : Int32)), .unset, .unset, .unset] [(.ref r81)])) _
      refine Goes.via (fun t k => XS.astore X81.here hx rfl (hb hby at_50) rfl rfl (l' := #[.val (.int p1), .val (.int p2), .val (.int p3), .val (.int p4), .val (.int p5), .val (.ref r70), .val (.int (1 : Int32)), .val (.ref r81), .unset, .unset]) rfl k) ?_
      show Goes p e below (T81.setTop (mkF m 52 #[.val (.int p1), .val (.int p2), .val (.int p3), .val (.int p4), .val (.int p5), .val (.ref r70), .val (.int (1 : Int32)), .val (.ref r81), .unset, .unset] [])) _
      obtain ⟨T82, h82, X82, e82, E82, A82, D82, -, st82⟩ := newO X81 hx hZ hown (hw _ (List.mem_of_getElem? (i := 38) rfl)) (hw _ (List.mem_of_getElem? (i := 39) rfl)) (hw _ (List.mem_of_getElem? (i := 40) rfl)) rfl (g := (mkF m 52 #[.val (.int p1), .val (.int p2), .val (.int p3), .val (.int p4), .val (.int p5), .val (.ref r70), .val (.int (1 : Int32)), .val (.ref r81), .unset, .unset] [])) rfl (hb hby at_52) (by decide) (by decide)
      obtain ⟨b82, g82⟩ : ∃ z, z = T81.heap.size := ⟨_, rfl⟩
      rw [← g82] at A82 D82 st82
      have ge_b82 : n0 ≤ b82 := Nat.le_trans Z81 (Nat.le_of_eq g82.symm)
      have sz_b82 : h0.size ≤ b82 := Nat.le_trans K81.1 (Nat.le_of_eq g82.symm)
      have K82 : Keep h0 h82 [] := K81.ext E82
      have Z82 : n0 ≤ h82.size := Nat.le_trans Z81 E82.1
      have O82 := O81.ext E82
      have hk := Nat.le_trans hk E82.1
      have F82_offset : Fld Z h82 b82 "cascabel/model/selector/TypeSelector" "offset" "I" (.int (0 : Int32)) := D82 (Or.inr (hw _ (List.mem_of_getElem? (i := 51) rfl))) (ty := .int) (by decide)
      have F82_namespace : Fld Z h82 b82 "cascabel/model/selector/TypeSelector" "namespace" "Ljava/lang/String;" .null := D82 (Or.inr (hw _ (List.mem_of_getElem? (i := 53) rfl))) (ty := (.object "java/lang/String")) (by decide)
      have F82_name : Fld Z h82 b82 "cascabel/model/selector/TypeSelector" "name" "Ljava/lang/String;" .null := D82 (Or.inr (hw _ (List.mem_of_getElem? (i := 55) rfl))) (ty := (.object "java/lang/String")) (by decide)
      refine Goes.via st82 ?_
      show Goes p e below (T82.setTop (mkF m 55 #[.val (.int p1), .val (.int p2), .val (.int p3), .val (.int p4), .val (.int p5), .val (.ref r70), .val (.int (1 : Int32)), .val (.ref r81), .unset, .unset] [(.ref b82)])) _
      refine Goes.via (fun t k => XS.dup X82.here hx rfl (hb hby at_55) rfl rfl k) ?_
      show Goes p e below (T82.setTop (mkF m 56 #[.val (.int p1), .val (.int p2), .val (.int p3), .val (.int p4), .val (.int p5), .val (.ref r70), .val (.int (1 : Int32)), .val (.ref r81), .unset, .unset] [(.ref b82), (.ref b82)])) _
      refine Goes.via (fun t k => XS.iloadN X82.here hx rfl (hb hby at_56) rfl k) ?_
      show Goes p e below (T82.setTop (mkF m 57 #[.val (.int p1), .val (.int p2), .val (.int p3), .val (.int p4), .val (.int p5), .val (.ref r70), .val (.int (1 : Int32)), .val (.ref r81), .unset, .unset] [(.int p1), (.ref b82), (.ref b82)])) _
      refine Goes.via (fun t k => XS.aload X82.here hx rfl (hb hby at_57) rfl rfl k) ?_
      show Goes p e below (T82.setTop (mkF m 59 #[.val (.int p1), .val (.int p2), .val (.int p3), .val (.int p4), .val (.int p5), .val (.ref r70), .val (.int (1 : Int32)), .val (.ref r81), .unset, .unset] [(.ref r70), (.int p1), (.ref b82), (.ref b82)])) _
      refine Goes.via (fun t k => XS.aload X82.here hx rfl (hb hby at_59) rfl rfl k) ?_
      show Goes p e below (T82.setTop (mkF m 61 #[.val (.int p1), .val (.int p2), .val (.int p3), .val (.int p4), .val (.int p5), .val (.ref r70), .val (.int (1 : Int32)), .val (.ref r81), .unset, .unset] [(.ref r81), (.ref r70), (.int p1), (.ref b82), (.ref b82)])) _
      try clear size; try clear heap; try clear g82; try clear st82; try clear D82; try clear E82; try clear O81; try clear Z81; try clear K81; try clear Kc81; try clear N81q; try clear hown81
      try clear hZ81; try clear hS81; try clear X81f; try clear st81; try clear z81; try clear y81; try clear l81; try clear hQ81; try clear Lc81; try clear sg81; try clear S81; try clear X81
      try clear n81; try clear k81; try clear L81; try clear T81; try clear N80w; try clear X80w; try clear Lw80; try clear N70; try clear O70; try clear Z70; try clear K70; try clear Kc70
      try clear N70q; try clear hown70; try clear hZ70; try clear hS70; try clear X70f; try clear st70; try clear z70; try clear y70; try clear l70; try clear hQ70; try clear Lc70; try clear sg70
      try clear S70; try clear X70; try clear n70; try clear k70; try clear L70; try clear T70
      obtain ⟨Lw83, X83w, N83w⟩ := ownPack X82 N81
      obtain ⟨_, _, ⟨T84, L84, k84, n84⟩, -, X84, ⟨Lc84, hQ84, l84, y84, z84⟩, st84⟩ := X83w.specialBack hx (y := (⟨"cascabel/model/selector/TypeSelector", "<init>", "(ILjava/lang/String;Ljava/lang/String;)V"⟩ : MethodName)) rfl hown (mvT hZ (hw _ (List.mem_of_getElem? (i := 41) rfl))) (mvT hZ (hw _ (List.mem_of_getElem? (i := 42) rfl))) (mvT hZ (hw _ (List.mem_of_getElem? (i := 43) rfl))) (by decide) (backOf (W := 1) (rm8_11 l Z a0 hw [] b82 p1 r70 r81  h82 n0 Z82 A82 F82_offset F82_namespace F82_name ge_b82) hZ (hw _ (List.mem_of_getElem? (i := 43) rfl)) (hw _ (List.mem_of_getElem? (i := 40) rfl)) (by decide) (by decide)) (g := (mkF m 61 #[.val (.int p1), .val (.int p2), .val (.int p3), .val (.int p4), .val (.int p5), .val (.ref r70), .val (.int (1 : Int32)), .val (.ref r81), .unset, .unset] [(.ref r81), (.ref r70), (.int p1), (.ref b82), (.ref b82)])) rfl (by rw [hml]; rfl) (Steps.refl _) (a := b82) (argsL := [(.int p1), (.ref r70), (.ref r81)]) (rest := [(.ref b82)]) (lenOf pd_0_1 rfl) rfl (by show 2 * 0 + _ ≤ _; exact Nat.le_of_eq rfl) (hb hby at_61) (fun _ _ => ⟨rfl, e82, (by decide : 5 + 0 ≤ _), (by decide : 15 + 0 ≤ _)⟩)
      dsimp only [Pt.U, Pt.locs, Pt.cells, Pt.slots] at X84 l84 y84 z84 st84 hQ84
      subst l84 y84 z84
      obtain ⟨rfl, N84q, Kc84, Ec84, Fn84⟩ := hQ84
      have F84_51 := A82.keep Kc84
      have K84 : Keep h0 T84.heap [] := K82.trans Kc84 (fun x hx => by cases List.mem_singleton.mp hx; exact Or.inr sz_b82)
      have Z84 : n0 ≤ T84.heap.size := Nat.le_trans Z82 Kc84.1
      have O84 := O82.keep Kc84 (fun x hx => by cases List.mem_singleton.mp hx; exact ge_b82)
      have hk := Nat.le_trans hk Kc84.1
      have N84 := Fr.app N83w N84q
      refine Goes.via (fun t k => st84.trans k) ?_
      show Goes p e below (T84.setTop (mkF m 64 #[.val (.int p1), .val (.int p2), .val (.int p3), .val (.int p4), .val (.int p5), .val (.ref r70), .val (.int (1 : Int32)), .val (.ref r81), .unset, .unset] [(.ref b82)])) _
      refine Goes.via (fun t k => XS.astore X84.here hx rfl (hb hby at_64) rfl rfl (l' := #[.val (.int p1), .val (.int p2), .val (.int p3), .val (.int p4), .val (.int p5), .val (.ref r70), .val (.int (1 : Int32)), .val (.ref r81), .val (.ref b82), .unset]) rfl k) ?_
      show Goes p e below (T84.setTop (mkF m 66 #[.val (.int p1), .val (.int p2), .val (.int p3), .val (.int p4), .val (.int p5), .val (.ref r70), .val (.int (1 : Int32)), .val (.ref r81), .val (.ref b82), .unset] [])) _
      refine Goes.via (fun t k => XS.iload X84.here hx rfl (hb hby at_66) rfl k) ?_
      show Goes p e below (T84.setTop (mkF m 68 #[.val (.int p1), .val (.int p2), .val (.int p3), .val (.int p4), .val (.int p5), .val (.ref r70), .val (.int (1 : Int32)), .val (.ref r81), .val (.ref b82), .unset] [(.int (1 : Int32))])) _
      refine Goes.via (fun t k => XS.ifYes X84.here hx rfl (pc0 := 68) (pc' := 75) rfl (hb hby at_68) rfl ((if0 _ _).trans (feq (show ¬ ((1 : Int32) = (0 : Int32)) from (by decide))).2) (by decide) (by decide) k) ?_
      show Goes p e below (T84.setTop (mkF m 75 #[.val (.int p1), .val (.int p2), .val (.int p3), .val (.int p4), .val (.int p5), .val (.ref r70), .val (.int (1 : Int32)), .val (.ref r81), .val (.ref b82), .unset] [])) _
      refine Goes.via (fun t k => XS.iconst X84.here hx rfl (hb hby at_75) k) ?_
      show Goes p e below (T84.setTop (mkF m 76 #[.val (.int p1), .val (.int p2), .val (.int p3), .val (.int p4), .val (.int p5), .val (.ref r70), .val (.int (1 : Int32)), .val (.ref r81), .val (.ref b82), .unset] [(.int (0 : Int32))])) _
      refine Goes.via (fun t k => XS.istore X84.here hx rfl (hb hby at_76) rfl (l' := #[.val (.int p1), .val (.int p2), .val (.int p3), .val (.int p4), .val (.int p5), .val (.ref r70), .val (.int (1 : Int32)), .val (.ref r81), .val (.ref b82), .val (.int (0 : Int32))]) rfl k) ?_
      show Goes p e below (T84.setTop (mkF m 78 #[.val (.int p1), .val (.int p2), .val (.int p3), .val (.int p4), .val (.int p5), .val (.ref r70), .val (.int (1 : Int32)), .val (.ref r81), .val (.ref b82), .val (.int (0 : Int32))] [])) _
      refine Goes.via (fun t k => XS.aload X84.here hx rfl (hb hby at_78) rfl rfl k) ?_
      show Goes p e below (T84.setTop (mkF m 80 #[.val (.int p1), .val (.int p2), .val (.int p3), .val (.int p4), .val (.int p5), .val (.ref r70), .val (.int (1 : Int32)), .val (.ref r81), .val (.ref b82), .val (.int (0 : Int32))] [(.ref b82)])) _
      obtain ⟨Lw85, X85w, N85w⟩ := ownPack X84 N84
      obtain ⟨cq86, kq86, q86a, q86b, q86c⟩ := isOf hZ rfl F84_51
      obtain ⟨_, _, ⟨T86, L86, k86, n86⟩, -, X86, ⟨Lc86, hQ86, l86, y86, z86⟩, st86⟩ := X85w.virtualBack hx (y := (⟨"cascabel/model/selector/TypeSelector", "isUniversal", "()Z"⟩ : MethodName)) (z := (⟨"cascabel/model/selector/TypeSelector", "isUniversal", "()Z"⟩ : MethodName)) hown (mvT hZ (hw _ (List.mem_of_getElem? (i := 56) rfl))) (mvT hZ (hw _ (List.mem_of_getElem? (i := 57) rfl))) (notFace_of_selects (args := #[]) (mvT hZ (hw _ (List.mem_of_getElem? (i := 59) rfl)))) (mvT hZ (hw _ (List.mem_of_getElem? (i := 59) rfl))) (mvT hZ (hw _ (List.mem_of_getElem? (i := 58) rfl))) (by decide) (backOf (W := 0) (rm10_1 l Z a0 hw [] b82 r81 T84.heap n0 Z84 Fn84) hZ (hw _ (List.mem_of_getElem? (i := 60) rfl)) (hw _ (List.mem_of_getElem? (i := 40) rfl)) (by decide) (by decide)) q86a q86c (g := (mkF m 80 #[.val (.int p1), .val (.int p2), .val (.int p3), .val (.int p4), .val (.int p5), .val (.ref r70), .val (.int (1 : Int32)), .val (.ref r81), .val (.ref b82), .val (.int (0 : Int32))] [(.ref b82)])) rfl (by rw [hml]; rfl) (Steps.refl _) (argsL := []) (rest := []) (lenOf pd_0_2 rfl) rfl (by show 2 * 0 + _ ≤ _; exact Nat.le_of_eq rfl) (hb hby at_80) (fun _ _ => ⟨rfl, rfl, (by decide : 5 + 0 ≤ _), (by decide : 15 + 0 ≤ _)⟩)
      dsimp only [Pt.U, Pt.locs, Pt.cells, Pt.slots] at X86 l86 y86 z86 st86 hQ86
      subst l86 y86 z86
      obtain ⟨rfl, N86q, er86⟩ := hQ86
      have e86 : T86.heap = T84.heap := er86
      have N86 := Fr.app N85w N86q
      refine Goes.via (fun t k => st86.trans k) ?_
      show Goes p e below (T86.setTop (mkF m 83 #[.val (.int p1), .val (.int p2), .val (.int p3), .val (.int p4), .val (.int p5), .val (.ref r70), .val (.int (1 : Int32)), .val (.ref r81), .val (.ref b82), .val (.int (0 : Int32))] [(.int (0 : Int32))])) _
      refine Goes.via (fun t k => XS.iload X86.here hx rfl (hb hby at_83) rfl k) ?_
      show Goes p e below (T86.setTop (mkF m 85 #[.val (.int p1), .val (.int p2), .val (.int p3), .val (.int p4), .val (.int p5), .val (.ref r70), .val (.int (1 : Int32)), .val (.ref r81), .val (.ref b82), .val (.int (0 : Int32))] [(.int (0 : Int32)), (.int (0 : Int32))])) _
      refine Goes.via (fun t k => XS.icmpNo X86.here hx rfl (hb hby at_85) rfl (teq (show (0 : Int32) = (0 : Int32) from rfl)).2 k) ?_
      show Goes p e below (T86.setTop (mkF m 88 #[.val (.int p1), .val (.int p2), .val (.int p3), .val (.int p4), .val (.int p5), .val (.ref r70), .val (.int (1 : Int32)), .val (.ref r81), .val (.ref b82), .val (.int (0 : Int32))] [])) _
      refine Goes.via (fun t k => XS.iconst X86.here hx rfl (hb hby at_88) k) ?_
      show Goes p e below (T86.setTop (mkF m 89 #[.val (.int p1), .val (.int p2), .val (.int p3), .val (.int p4), .val (.int p5), .val (.ref r70), .val (.int (1 : Int32)), .val (.ref r81), .val (.ref b82), .val (.int (0 : Int32))] [(.int (1 : Int32))])) _
      refine Goes.via (fun t k => XS.goto X86.here hx rfl (pc0 := 89) (pc' := 93) rfl (hb hby at_89) (by decide) (by decide) k) ?_
      show Goes p e below (T86.setTop (mkF m 93 #[.val (.int p1), .val (.int p2), .val (.int p3), .val (.int p4), .val (.int p5), .val (.ref r70), .val (.int (1 : Int32)), .val (.ref r81), .val (.ref b82), .val (.int (0 : Int32))] [(.int (1 : Int32))])) _
      obtain ⟨fs, hr, hrun, hended, hRE⟩ := X86.leaveW hS (by rw [e86]; exact hk) (v := some (.int (1 : Int32))) (fun h => by rw [Bd.returns] at h; cases h)
      refine ⟨_, _, ?_, hrun, hended, _, _, rfl, ?_, hRE.1, hRE.2.1, hRE.2.2.1, hRE.2.2.2.mono (by decide) (by decide)⟩
      · exact retN X86 hx (t := .boolean) Bd.returns (by simp) (hb hby at_93) hr
      · show Q0 Z  h0 n0 _ T86.heap _ _
        rw [e86]
        exact ⟨rfl, N86⟩
    · rw [hlB]
      show Goes p e below (T70.setTop (mkF m 27 #[.val (.int p1), .val (.int p2), .val (.int p3), .val (.int p4), .val (.int p5), .val (.ref r70), .unset, .unset, .unset, .unset] [(.int (2 : Int32))])) _
      refine Goes.via (fun t k => XS.istore X70.here hx rfl (hb hby at_27) rfl (l' := #[.val (.int p1), .val (.int p2), .val (.int p3), .val (.int p4), .val (.int p5), .val (.ref r70), .val (.int (2 : Int32)), .unset, .unset, .unset]) rfl k) ?_
      show Goes p e below (T70.setTop (mkF m 29 #[.val (.int p1), .val (.int p2), .val (.int p3), .val (.int p4), .val (.int p5), .val (.ref r70), .val (.int (2 : Int32)), .unset, .unset, .unset] [])) _
      refine Goes.via (fun t k => XS.iload X70.here hx rfl (hb hby at_29) rfl k) ?_
      show Goes p e below (T70.setTop (mkF m 31 #[.val (.int p1), .val (.int p2), .val (.int p3), .val (.int p4), .val (.int p5), .val (.ref r70), .val (.int (2 : Int32)), .unset, .unset, .unset] [(.int (2 : Int32))])) _
      refine Goes.via (fun t k => XS.iloadN X70.here hx rfl (hb hby at_31) rfl k) ?_
      show Goes p e below (T70.setTop (mkF m 32 #[.val (.int p1), .val (.int p2), .val (.int p3), .val (.int p4), .val (.int p5), .val (.ref r70), .val (.int (2 : Int32)), .unset, .unset, .unset] [(.int p4), (.int (2 : Int32))])) _
      refine Goes.via (fun t k => XS.iload X70.here hx rfl (hb hby at_32) rfl k) ?_
      show Goes p e below (T70.setTop (mkF m 34 #[.val (.int p1), .val (.int p2), .val (.int p3), .val (.int p4), .val (.int p5), .val (.ref r70), .val (.int (2 : Int32)), .unset, .unset, .unset] [(.int p5), (.int p4), (.int (2 : Int32))])) _
      refine Goes.via (fun t k => XS.iloadN X70.here hx rfl (hb hby at_34) rfl k) ?_
      show Goes p e below (T70.setTop (mkF m 35 #[.val (.int p1), .val (.int p2), .val (.int p3), .val (.int p4), .val (.int p5), .val (.ref r70), .val (.int (2 : Int32)), .unset, .unset, .unset] [(.int p3), (.int p5), (.int p4), (.int (2 : Int32))])) _
      refine Goes.via (fun t k => XS.iconst X70.here hx rfl (hb hby at_35) k) ?_
      show Goes p e below (T70.setTop (mkF m 36 #[.val (.int p1), .val (.int p2), .val (.int p3), .val (.int p4), .val (.int p5), .val (.ref r70), .val (.int (2 : Int32)), .unset, .unset, .unset] [(.int (2 : Int32)), (.int p3), (.int p5), (.int p4), (.int (2 : Int32))])) _
      refine Goes.via (fun t k => XS.iushr X70.here hx rfl (hb hby at_36) rfl k) ?_
      show Goes p e below (T70.setTop (mkF m 37 #[.val (.int p1), .val (.int p2), .val (.int p3), .val (.int p4), .val (.int p5), .val (.ref r70), .val (.int (2 : Int32)), .unset, .unset, .unset] [(.int ((p3.toUInt32 >>> ((2 : Int32) &&& 31).toUInt32).toInt32)), (.int p5), (.int p4), (.int (2 : Int32))])) _
      refine Goes.via (fun t k => XS.iconst X70.here hx rfl (hb hby at_37) k) ?_
      show Goes p e below (T70.setTop (mkF m 38 #[.val (.int p1), .val (.int p2), .val (.int p3), .val (.int p4), .val (.int p5), .val (.ref r70), .val (.int (2 : Int32)), .unset, .unset, .unset] [(.int (1 : Int32)), (.int ((p3.toUInt32 >>> ((2 : Int32) &&& 31).toUInt32).toInt32)), (.int p5), (.int p4), (.int (2 : Int32))])) _
      refine Goes.via (fun t k => XS.iand X70.here hx rfl (hb hby at_38) rfl k) ?_
      show Goes p e below (T70.setTop (mkF m 39 #[.val (.int p1), .val (.int p2), .val (.int p3), .val (.int p4), .val (.int p5), .val (.ref r70), .val (.int (2 : Int32)), .unset, .unset, .unset] [(.int (((p3.toUInt32 >>> ((2 : Int32) &&& 31).toUInt32).toInt32) &&& (1 : Int32))), (.int p5), (.int p4), (.int (2 : Int32))])) _
      refine Goes.via (next := T70.setTop (mkF m 47 #[.val (.int p1), .val (.int p2), .val (.int p3), .val (.int p4), .val (.int p5), .val (.ref r70), .val (.int (2 : Int32)), .unset, .unset, .unset] [(.int (v0_47_1 p3)), (.int p5), (.int p4), (.int (2 : Int32))])) (fun t k => ?_) ?_
      · by_cases hc39_87 : (((p3.toUInt32 >>> ((2 : Int32) &&& 31).toUInt32).toInt32) &&& (1 : Int32)) = (0 : Int32)
        · refine XS.ifYes X70.here hx rfl (pc0 := 39) (pc' := 46) rfl (hb hby at_39) rfl ((if0 _ _).trans (teq hc39_87).1) (by decide) (by decide) ?_
          show Steps p.tables e below (T70.setTop (mkF m 46 #[.val (.int p1), .val (.int p2), .val (.int p3), .val (.int p4), .val (.int p5), .val (.ref r70), .val (.int (2 : Int32)), .unset, .unset, .unset] [(.int p5), (.int p4), (.int (2 : Int32))])) _
          refine XS.iconst X70.here hx rfl (hb hby at_46) ?_
          show Steps p.tables e below (T70.setTop (mkF m 47 #[.val (.int p1), .val (.int p2), .val (.int p3), .val (.int p4), .val (.int p5), .val (.ref r70), .val (.int (2 : Int32)), .unset, .unset, .unset] [(.int (0 : Int32)), (.int p5), (.int p4), (.int (2 : Int32))])) _
          simpa only [v0_47_1, if_pos hc39_87] using k
        · refine XS.ifNo X70.here hx rfl (hb hby at_39) rfl ((if0 _ _).trans (feq hc39_87).1) ?_
          show Steps p.tables e below (T70.setTop (mkF m 42 #[.val (.int p1), .val (.int p2), .val (.int p3), .val (.int p4), .val (.int p5), .val (.ref r70), .val (.int (2 : Int32)), .unset, .unset, .unset] [(.int p5), (.int p4), (.int (2 : Int32))])) _
          refine XS.iconst X70.here hx rfl (hb hby at_42) ?_
          show Steps p.tables e below (T70.setTop (mkF m 43 #[.val (.int p1), .val (.int p2), .val (.int p3), .val (.int p4), .val (.int p5), .val (.ref r70), .val (.int (2 : Int32)), .unset, .unset, .unset] [(.int (1 : Int32)), (.int p5), (.int p4), (.int (2 : Int32))])) _
          refine XS.goto X70.here hx rfl (pc0 := 43) (pc' := 47) rfl (hb hby at_43) (by decide) (by decide) ?_
          show Steps p.tables e below (T70.setTop (mkF m 47 #[.val (.int p1), .val (.int p2), .val (.int p3), .val (.int p4), .val (.int p5), .val (.ref r70), .val (.int (2 : Int32)), .unset, .unset, .unset] [(.int (1 : Int32)), (.int p5), (.int p4), (.int (2 : Int32))])) _
          simpa only [v0_47_1, if_neg hc39_87] using k
      show Goes p e below (T70.setTop (mkF m 47 #[.val (.int p1), .val (.int p2), .val (.int p3), .val (.int p4), .val (.int p5), .val (.ref r70), .val (.int (2 : Int32)), .unset, .unset, .unset] [(.int (v0_47_1 p3)), (.int p5), (.int p4), (.int (2 : Int32))])) _
      obtain ⟨Lw88, X88w, N88w⟩ := ownPack X70 N70
      obtain ⟨_, _, ⟨T89, L89, k89, n89⟩, -, X89, S89, sg89, ⟨Lc89, hQ89, l89, y89, z89⟩, st89⟩ := callSS X88w hx (y := (⟨"cascabel/model/selector/TypeSelectorIsUniversalPinLaw", "pick", "(IIIZ)Ljava/lang/String;"⟩ : MethodName)) hown (mvT hZ (hw _ (List.mem_of_getElem? (i := 0) rfl))) (mvT hZ (hw _ (List.mem_of_getElem? (i := 1) rfl))) (mvT hZ (hw _ (List.mem_of_getElem? (i := 2) rfl))) (mvT hZ (hw _ (List.mem_of_getElem? (i := 3) rfl))) (by decide) (ownBackS (W := 0) (I := fun vm => True) (rm1_2 l Z a0 hw [] p4 p5 (v0_47_1 p3) w0 T70.heap n0 Z70 O70 St) hZ (fun _ _ => trivial) (hw _ (List.mem_of_getElem? (i := 3) rfl)) (hw _ (List.mem_of_getElem? (i := 2) rfl)) (by decide) (by decide)) (g := (mkF m 47 #[.val (.int p1), .val (.int p2), .val (.int p3), .val (.int p4), .val (.int p5), .val (.ref r70), .val (.int (2 : Int32)), .unset, .unset, .unset] [(.int (v0_47_1 p3)), (.int p5), (.int p4), (.int (2 : Int32))])) rfl (by rw [hml]; rfl) (argsL := [(.int (2 : Int32)), (.int p4), (.int p5), (.int (v0_47_1 p3))]) (rest := []) (lenOf pd_0_0 rfl) rfl (by show 2 * 0 + _ ≤ _; exact Nat.le_of_eq rfl) (hb hby at_47) (fun _ _ => ⟨rfl, rfl, (by decide : 2 + 2 ≤ _), (by decide : 8 + 8 ≤ _)⟩)
      dsimp only [Pt.U, Pt.locs, Pt.cells, Pt.slots] at X89 l89 y89 z89 st89 hQ89 S89 sg89
      subst l89 y89 z89
      obtain ⟨X89f, hS89, hZ89, hown89⟩ := rebS hS hk X89 S89 sg89 hZ hown
      have X89 := X89f
      have hS := hS89
      have hZ := hZ89
      have hown := hown89
      have hk : T89.heap.size ≤ T89.heap.size := Nat.le_refl _
      obtain ⟨r89, rfl, N89q, Kc89⟩ := hQ89
      have K89 : Keep h0 T89.heap [] := K70.trans Kc89 (fun x hx => nomatch hx)
      have Z89 : n0 ≤ T89.heap.size := Nat.le_trans Z70 Kc89.1
      have O89 := O70.keep Kc89 (fun x hx => nomatch hx)
      have N89 := Fr.app N88w N89q
      refine Goes.via (fun t k => st89.trans k) ?_
      show Goes p e below (T89.setTop (mkF m 50 #[.val (.int p1), .val (.int p2), .val (.int p3), .val (.int p4), .val (.int p5), .val (.ref r70), .val (.int (2 : Int32)), .unset, .unset, .unset] [(.ref r89)])) _
      refine Goes.via (fun t k => XS.astore X89.here hx rfl (hb hby at_50) rfl rfl (l' := #[.val (.int p1), .val (.int p2), .val (.int p3), .val (.int p4), .val (.int p5), .val (.ref r70), .val (.int (2 : Int32)), .val (.ref r89), .unset, .unset]) rfl k) ?_
      show Goes p e below (T89.setTop (mkF m 52 #[.val (.int p1), .val (.int p2), .val (.int p3), .val (.int p4), .val (.int p5), .val (.ref r70), .val (.int (2 : Int32)), .val (.ref r89), .unset, .unset] [])) _
      obtain ⟨T90, h90, X90, e90, E90, A90, D90, -, st90⟩ := newO X89 hx hZ hown (hw _ (List.mem_of_getElem? (i := 38) rfl)) (hw _ (List.mem_of_getElem? (i := 39) rfl)) (hw _ (List.mem_of_getElem? (i := 40) rfl)) rfl (g := (mkF m 52 #[.val (.int p1), .val (.int p2), .val (.int p3), .val (.int p4), .val (.int p5), .val (.ref r70), .val (.int (2 : Int32)), .val (.ref r89), .unset, .unset] [])) rfl (hb hby at_52) (by decide) (by decide)
      obtain ⟨b90, g90⟩ : ∃ z, z = T89.heap.size := ⟨_, rfl⟩
      rw [← g90] at A90 D90 st90
      have ge_b90 : n0 ≤ b90 := Nat.le_trans Z89 (Nat.le_of_eq g90.symm)
      have sz_b90 : h0.size ≤ b90 := Nat.le_trans K89.1 (Nat.le_of_eq g90.symm)
      have K90 : Keep h0 h90 [] := K89.ext E90
      have Z90 : n0 ≤ h90.size := Nat.le_trans Z89 E90.1
      have O90 := O89.ext E90
      have hk := Nat.le_trans hk E90.1
      have F90_offset : Fld Z h90 b90 "cascabel/model/selector/TypeSelector" "offset" "I" (.int (0 : Int32)) := D90 (Or.inr (hw _ (List.mem_of_getElem? (i := 51) rfl))) (ty := .int) (by decide)
      have F90_namespace : Fld Z h90 b90 "cascabel/model/selector/TypeSelector" "namespace" "Ljava/lang/String;" .null := D90 (Or.inr (hw _ (List.mem_of_getElem? (i := 53) rfl))) (ty := (.object "java/lang/String")) (by decide)
      have F90_name : Fld Z h90 b90 "cascabel/model/selector/TypeSelector" "name" "Ljava/lang/String;" .null := D90 (Or.inr (hw _ (List.mem_of_getElem? (i := 55) rfl))) (ty := (.object "java/lang/String")) (by decide)
      refine Goes.via st90 ?_
      show Goes p e below (T90.setTop (mkF m 55 #[.val (.int p1), .val (.int p2), .val (.int p3), .val (.int p4), .val (.int p5), .val (.ref r70), .val (.int (2 : Int32)), .val (.ref r89), .unset, .unset] [(.ref b90)])) _
      refine Goes.via (fun t k => XS.dup X90.here hx rfl (hb hby at_55) rfl rfl k) ?_
      show Goes p e below (T90.setTop (mkF m 56 #[.val (.int p1), .val (.int p2), .val (.int p3), .val (.int p4), .val (.int p5), .val (.ref r70), .val (.int (2 : Int32)), .val (.ref r89), .unset, .unset] [(.ref b90), (.ref b90)])) _
      refine Goes.via (fun t k => XS.iloadN X90.here hx rfl (hb hby at_56) rfl k) ?_
      show Goes p e below (T90.setTop (mkF m 57 #[.val (.int p1), .val (.int p2), .val (.int p3), .val (.int p4), .val (.int p5), .val (.ref r70), .val (.int (2 : Int32)), .val (.ref r89), .unset, .unset] [(.int p1), (.ref b90), (.ref b90)])) _
      refine Goes.via (fun t k => XS.aload X90.here hx rfl (hb hby at_57) rfl rfl k) ?_
      show Goes p e below (T90.setTop (mkF m 59 #[.val (.int p1), .val (.int p2), .val (.int p3), .val (.int p4), .val (.int p5), .val (.ref r70), .val (.int (2 : Int32)), .val (.ref r89), .unset, .unset] [(.ref r70), (.int p1), (.ref b90), (.ref b90)])) _
      refine Goes.via (fun t k => XS.aload X90.here hx rfl (hb hby at_59) rfl rfl k) ?_
      show Goes p e below (T90.setTop (mkF m 61 #[.val (.int p1), .val (.int p2), .val (.int p3), .val (.int p4), .val (.int p5), .val (.ref r70), .val (.int (2 : Int32)), .val (.ref r89), .unset, .unset] [(.ref r89), (.ref r70), (.int p1), (.ref b90), (.ref b90)])) _
      try clear size; try clear heap; try clear g90; try clear st90; try clear D90; try clear E90; try clear O89; try clear Z89; try clear K89; try clear Kc89; try clear N89q; try clear hown89
      try clear hZ89; try clear hS89; try clear X89f; try clear st89; try clear z89; try clear y89; try clear l89; try clear hQ89; try clear Lc89; try clear sg89; try clear S89; try clear X89
      try clear n89; try clear k89; try clear L89; try clear T89; try clear N88w; try clear X88w; try clear Lw88; try clear N70; try clear O70; try clear Z70; try clear K70; try clear Kc70
      try clear N70q; try clear hown70; try clear hZ70; try clear hS70; try clear X70f; try clear st70; try clear z70; try clear y70; try clear l70; try clear hQ70; try clear Lc70; try clear sg70
      try clear S70; try clear X70; try clear n70; try clear k70; try clear L70; try clear T70
      obtain ⟨Lw91, X91w, N91w⟩ := ownPack X90 N89
      obtain ⟨_, _, ⟨T92, L92, k92, n92⟩, -, X92, ⟨Lc92, hQ92, l92, y92, z92⟩, st92⟩ := X91w.specialBack hx (y := (⟨"cascabel/model/selector/TypeSelector", "<init>", "(ILjava/lang/String;Ljava/lang/String;)V"⟩ : MethodName)) rfl hown (mvT hZ (hw _ (List.mem_of_getElem? (i := 41) rfl))) (mvT hZ (hw _ (List.mem_of_getElem? (i := 42) rfl))) (mvT hZ (hw _ (List.mem_of_getElem? (i := 43) rfl))) (by decide) (backOf (W := 1) (rm8_11 l Z a0 hw [] b90 p1 r70 r89  h90 n0 Z90 A90 F90_offset F90_namespace F90_name ge_b90) hZ (hw _ (List.mem_of_getElem? (i := 43) rfl)) (hw _ (List.mem_of_getElem? (i := 40) rfl)) (by decide) (by decide)) (g := (mkF m 61 #[.val (.int p1), .val (.int p2), .val (.int p3), .val (.int p4), .val (.int p5), .val (.ref r70), .val (.int (2 : Int32)), .val (.ref r89), .unset, .unset] [(.ref r89), (.ref r70), (.int p1), (.ref b90), (.ref b90)])) rfl (by rw [hml]; rfl) (Steps.refl _) (a := b90) (argsL := [(.int p1), (.ref r70), (.ref r89)]) (rest := [(.ref b90)]) (lenOf pd_0_1 rfl) rfl (by show 2 * 0 + _ ≤ _; exact Nat.le_of_eq rfl) (hb hby at_61) (fun _ _ => ⟨rfl, e90, (by decide : 5 + 0 ≤ _), (by decide : 19 + 0 ≤ _)⟩)
      dsimp only [Pt.U, Pt.locs, Pt.cells, Pt.slots] at X92 l92 y92 z92 st92 hQ92
      subst l92 y92 z92
      obtain ⟨rfl, N92q, Kc92, Ec92, Fn92⟩ := hQ92
      have F92_51 := A90.keep Kc92
      have K92 : Keep h0 T92.heap [] := K90.trans Kc92 (fun x hx => by cases List.mem_singleton.mp hx; exact Or.inr sz_b90)
      have Z92 : n0 ≤ T92.heap.size := Nat.le_trans Z90 Kc92.1
      have O92 := O90.keep Kc92 (fun x hx => by cases List.mem_singleton.mp hx; exact ge_b90)
      have hk := Nat.le_trans hk Kc92.1
      have N92 := Fr.app N91w N92q
      refine Goes.via (fun t k => st92.trans k) ?_
      show Goes p e below (T92.setTop (mkF m 64 #[.val (.int p1), .val (.int p2), .val (.int p3), .val (.int p4), .val (.int p5), .val (.ref r70), .val (.int (2 : Int32)), .val (.ref r89), .unset, .unset] [(.ref b90)])) _
      refine Goes.via (fun t k => XS.astore X92.here hx rfl (hb hby at_64) rfl rfl (l' := #[.val (.int p1), .val (.int p2), .val (.int p3), .val (.int p4), .val (.int p5), .val (.ref r70), .val (.int (2 : Int32)), .val (.ref r89), .val (.ref b90), .unset]) rfl k) ?_
      show Goes p e below (T92.setTop (mkF m 66 #[.val (.int p1), .val (.int p2), .val (.int p3), .val (.int p4), .val (.int p5), .val (.ref r70), .val (.int (2 : Int32)), .val (.ref r89), .val (.ref b90), .unset] [])) _
      refine Goes.via (fun t k => XS.iload X92.here hx rfl (hb hby at_66) rfl k) ?_
      show Goes p e below (T92.setTop (mkF m 68 #[.val (.int p1), .val (.int p2), .val (.int p3), .val (.int p4), .val (.int p5), .val (.ref r70), .val (.int (2 : Int32)), .val (.ref r89), .val (.ref b90), .unset] [(.int (2 : Int32))])) _
      refine Goes.via (fun t k => XS.ifYes X92.here hx rfl (pc0 := 68) (pc' := 75) rfl (hb hby at_68) rfl ((if0 _ _).trans (feq (show ¬ ((2 : Int32) = (0 : Int32)) from (by decide))).2) (by decide) (by decide) k) ?_
      show Goes p e below (T92.setTop (mkF m 75 #[.val (.int p1), .val (.int p2), .val (.int p3), .val (.int p4), .val (.int p5), .val (.ref r70), .val (.int (2 : Int32)), .val (.ref r89), .val (.ref b90), .unset] [])) _
      refine Goes.via (fun t k => XS.iconst X92.here hx rfl (hb hby at_75) k) ?_
      show Goes p e below (T92.setTop (mkF m 76 #[.val (.int p1), .val (.int p2), .val (.int p3), .val (.int p4), .val (.int p5), .val (.ref r70), .val (.int (2 : Int32)), .val (.ref r89), .val (.ref b90), .unset] [(.int (0 : Int32))])) _
      refine Goes.via (fun t k => XS.istore X92.here hx rfl (hb hby at_76) rfl (l' := #[.val (.int p1), .val (.int p2), .val (.int p3), .val (.int p4), .val (.int p5), .val (.ref r70), .val (.int (2 : Int32)), .val (.ref r89), .val (.ref b90), .val (.int (0 : Int32))]) rfl k) ?_
      show Goes p e below (T92.setTop (mkF m 78 #[.val (.int p1), .val (.int p2), .val (.int p3), .val (.int p4), .val (.int p5), .val (.ref r70), .val (.int (2 : Int32)), .val (.ref r89), .val (.ref b90), .val (.int (0 : Int32))] [])) _
      refine Goes.via (fun t k => XS.aload X92.here hx rfl (hb hby at_78) rfl rfl k) ?_
      show Goes p e below (T92.setTop (mkF m 80 #[.val (.int p1), .val (.int p2), .val (.int p3), .val (.int p4), .val (.int p5), .val (.ref r70), .val (.int (2 : Int32)), .val (.ref r89), .val (.ref b90), .val (.int (0 : Int32))] [(.ref b90)])) _
      obtain ⟨Lw93, X93w, N93w⟩ := ownPack X92 N92
      obtain ⟨cq94, kq94, q94a, q94b, q94c⟩ := isOf hZ rfl F92_51
      obtain ⟨_, _, ⟨T94, L94, k94, n94⟩, -, X94, ⟨Lc94, hQ94, l94, y94, z94⟩, st94⟩ := X93w.virtualBack hx (y := (⟨"cascabel/model/selector/TypeSelector", "isUniversal", "()Z"⟩ : MethodName)) (z := (⟨"cascabel/model/selector/TypeSelector", "isUniversal", "()Z"⟩ : MethodName)) hown (mvT hZ (hw _ (List.mem_of_getElem? (i := 56) rfl))) (mvT hZ (hw _ (List.mem_of_getElem? (i := 57) rfl))) (notFace_of_selects (args := #[]) (mvT hZ (hw _ (List.mem_of_getElem? (i := 59) rfl)))) (mvT hZ (hw _ (List.mem_of_getElem? (i := 59) rfl))) (mvT hZ (hw _ (List.mem_of_getElem? (i := 58) rfl))) (by decide) (backOf (W := 0) (rm10_1 l Z a0 hw [] b90 r89 T92.heap n0 Z92 Fn92) hZ (hw _ (List.mem_of_getElem? (i := 60) rfl)) (hw _ (List.mem_of_getElem? (i := 40) rfl)) (by decide) (by decide)) q94a q94c (g := (mkF m 80 #[.val (.int p1), .val (.int p2), .val (.int p3), .val (.int p4), .val (.int p5), .val (.ref r70), .val (.int (2 : Int32)), .val (.ref r89), .val (.ref b90), .val (.int (0 : Int32))] [(.ref b90)])) rfl (by rw [hml]; rfl) (Steps.refl _) (argsL := []) (rest := []) (lenOf pd_0_2 rfl) rfl (by show 2 * 0 + _ ≤ _; exact Nat.le_of_eq rfl) (hb hby at_80) (fun _ _ => ⟨rfl, rfl, (by decide : 5 + 0 ≤ _), (by decide : 19 + 0 ≤ _)⟩)
      dsimp only [Pt.U, Pt.locs, Pt.cells, Pt.slots] at X94 l94 y94 z94 st94 hQ94
      subst l94 y94 z94
      obtain ⟨rfl, N94q, er94⟩ := hQ94
      have e94 : T94.heap = T92.heap := er94
      have N94 := Fr.app N93w N94q
      refine Goes.via (fun t k => st94.trans k) ?_
      show Goes p e below (T94.setTop (mkF m 83 #[.val (.int p1), .val (.int p2), .val (.int p3), .val (.int p4), .val (.int p5), .val (.ref r70), .val (.int (2 : Int32)), .val (.ref r89), .val (.ref b90), .val (.int (0 : Int32))] [(.int (0 : Int32))])) _
      refine Goes.via (fun t k => XS.iload X94.here hx rfl (hb hby at_83) rfl k) ?_
      show Goes p e below (T94.setTop (mkF m 85 #[.val (.int p1), .val (.int p2), .val (.int p3), .val (.int p4), .val (.int p5), .val (.ref r70), .val (.int (2 : Int32)), .val (.ref r89), .val (.ref b90), .val (.int (0 : Int32))] [(.int (0 : Int32)), (.int (0 : Int32))])) _
      refine Goes.via (fun t k => XS.icmpNo X94.here hx rfl (hb hby at_85) rfl (teq (show (0 : Int32) = (0 : Int32) from rfl)).2 k) ?_
      show Goes p e below (T94.setTop (mkF m 88 #[.val (.int p1), .val (.int p2), .val (.int p3), .val (.int p4), .val (.int p5), .val (.ref r70), .val (.int (2 : Int32)), .val (.ref r89), .val (.ref b90), .val (.int (0 : Int32))] [])) _
      refine Goes.via (fun t k => XS.iconst X94.here hx rfl (hb hby at_88) k) ?_
      show Goes p e below (T94.setTop (mkF m 89 #[.val (.int p1), .val (.int p2), .val (.int p3), .val (.int p4), .val (.int p5), .val (.ref r70), .val (.int (2 : Int32)), .val (.ref r89), .val (.ref b90), .val (.int (0 : Int32))] [(.int (1 : Int32))])) _
      refine Goes.via (fun t k => XS.goto X94.here hx rfl (pc0 := 89) (pc' := 93) rfl (hb hby at_89) (by decide) (by decide) k) ?_
      show Goes p e below (T94.setTop (mkF m 93 #[.val (.int p1), .val (.int p2), .val (.int p3), .val (.int p4), .val (.int p5), .val (.ref r70), .val (.int (2 : Int32)), .val (.ref r89), .val (.ref b90), .val (.int (0 : Int32))] [(.int (1 : Int32))])) _
      obtain ⟨fs, hr, hrun, hended, hRE⟩ := X94.leaveW hS (by rw [e94]; exact hk) (v := some (.int (1 : Int32))) (fun h => by rw [Bd.returns] at h; cases h)
      refine ⟨_, _, ?_, hrun, hended, _, _, rfl, ?_, hRE.1, hRE.2.1, hRE.2.2.1, hRE.2.2.2.mono (by decide) (by decide)⟩
      · exact retN X94 hx (t := .boolean) Bd.returns (by simp) (hb hby at_93) hr
      · show Q0 Z  h0 n0 _ T94.heap _ _
        rw [e94]
        exact ⟨rfl, N94⟩
    · rw [hlB]
      show Goes p e below (T70.setTop (mkF m 27 #[.val (.int p1), .val (.int p2), .val (.int p3), .val (.int p4), .val (.int p5), .val (.ref r70), .unset, .unset, .unset, .unset] [(.int (3 : Int32))])) _
      refine Goes.via (fun t k => XS.istore X70.here hx rfl (hb hby at_27) rfl (l' := #[.val (.int p1), .val (.int p2), .val (.int p3), .val (.int p4), .val (.int p5), .val (.ref r70), .val (.int (3 : Int32)), .unset, .unset, .unset]) rfl k) ?_
      show Goes p e below (T70.setTop (mkF m 29 #[.val (.int p1), .val (.int p2), .val (.int p3), .val (.int p4), .val (.int p5), .val (.ref r70), .val (.int (3 : Int32)), .unset, .unset, .unset] [])) _
      refine Goes.via (fun t k => XS.iload X70.here hx rfl (hb hby at_29) rfl k) ?_
      show Goes p e below (T70.setTop (mkF m 31 #[.val (.int p1), .val (.int p2), .val (.int p3), .val (.int p4), .val (.int p5), .val (.ref r70), .val (.int (3 : Int32)), .unset, .unset, .unset] [(.int (3 : Int32))])) _
      refine Goes.via (fun t k => XS.iloadN X70.here hx rfl (hb hby at_31) rfl k) ?_
      show Goes p e below (T70.setTop (mkF m 32 #[.val (.int p1), .val (.int p2), .val (.int p3), .val (.int p4), .val (.int p5), .val (.ref r70), .val (.int (3 : Int32)), .unset, .unset, .unset] [(.int p4), (.int (3 : Int32))])) _
      refine Goes.via (fun t k => XS.iload X70.here hx rfl (hb hby at_32) rfl k) ?_
      show Goes p e below (T70.setTop (mkF m 34 #[.val (.int p1), .val (.int p2), .val (.int p3), .val (.int p4), .val (.int p5), .val (.ref r70), .val (.int (3 : Int32)), .unset, .unset, .unset] [(.int p5), (.int p4), (.int (3 : Int32))])) _
      refine Goes.via (fun t k => XS.iloadN X70.here hx rfl (hb hby at_34) rfl k) ?_
      show Goes p e below (T70.setTop (mkF m 35 #[.val (.int p1), .val (.int p2), .val (.int p3), .val (.int p4), .val (.int p5), .val (.ref r70), .val (.int (3 : Int32)), .unset, .unset, .unset] [(.int p3), (.int p5), (.int p4), (.int (3 : Int32))])) _
      refine Goes.via (fun t k => XS.iconst X70.here hx rfl (hb hby at_35) k) ?_
      show Goes p e below (T70.setTop (mkF m 36 #[.val (.int p1), .val (.int p2), .val (.int p3), .val (.int p4), .val (.int p5), .val (.ref r70), .val (.int (3 : Int32)), .unset, .unset, .unset] [(.int (2 : Int32)), (.int p3), (.int p5), (.int p4), (.int (3 : Int32))])) _
      refine Goes.via (fun t k => XS.iushr X70.here hx rfl (hb hby at_36) rfl k) ?_
      show Goes p e below (T70.setTop (mkF m 37 #[.val (.int p1), .val (.int p2), .val (.int p3), .val (.int p4), .val (.int p5), .val (.ref r70), .val (.int (3 : Int32)), .unset, .unset, .unset] [(.int ((p3.toUInt32 >>> ((2 : Int32) &&& 31).toUInt32).toInt32)), (.int p5), (.int p4), (.int (3 : Int32))])) _
      refine Goes.via (fun t k => XS.iconst X70.here hx rfl (hb hby at_37) k) ?_
      show Goes p e below (T70.setTop (mkF m 38 #[.val (.int p1), .val (.int p2), .val (.int p3), .val (.int p4), .val (.int p5), .val (.ref r70), .val (.int (3 : Int32)), .unset, .unset, .unset] [(.int (1 : Int32)), (.int ((p3.toUInt32 >>> ((2 : Int32) &&& 31).toUInt32).toInt32)), (.int p5), (.int p4), (.int (3 : Int32))])) _
      refine Goes.via (fun t k => XS.iand X70.here hx rfl (hb hby at_38) rfl k) ?_
      show Goes p e below (T70.setTop (mkF m 39 #[.val (.int p1), .val (.int p2), .val (.int p3), .val (.int p4), .val (.int p5), .val (.ref r70), .val (.int (3 : Int32)), .unset, .unset, .unset] [(.int (((p3.toUInt32 >>> ((2 : Int32) &&& 31).toUInt32).toInt32) &&& (1 : Int32))), (.int p5), (.int p4), (.int (3 : Int32))])) _
      refine Goes.via (next := T70.setTop (mkF m 47 #[.val (.int p1), .val (.int p2), .val (.int p3), .val (.int p4), .val (.int p5), .val (.ref r70), .val (.int (3 : Int32)), .unset, .unset, .unset] [(.int (v0_47_1 p3)), (.int p5), (.int p4), (.int (3 : Int32))])) (fun t k => ?_) ?_
      · by_cases hc39_95 : (((p3.toUInt32 >>> ((2 : Int32) &&& 31).toUInt32).toInt32) &&& (1 : Int32)) = (0 : Int32)
        · refine XS.ifYes X70.here hx rfl (pc0 := 39) (pc' := 46) rfl (hb hby at_39) rfl ((if0 _ _).trans (teq hc39_95).1) (by decide) (by decide) ?_
          show Steps p.tables e below (T70.setTop (mkF m 46 #[.val (.int p1), .val (.int p2), .val (.int p3), .val (.int p4), .val (.int p5), .val (.ref r70), .val (.int (3 : Int32)), .unset, .unset, .unset] [(.int p5), (.int p4), (.int (3 : Int32))])) _
          refine XS.iconst X70.here hx rfl (hb hby at_46) ?_
          show Steps p.tables e below (T70.setTop (mkF m 47 #[.val (.int p1), .val (.int p2), .val (.int p3), .val (.int p4), .val (.int p5), .val (.ref r70), .val (.int (3 : Int32)), .unset, .unset, .unset] [(.int (0 : Int32)), (.int p5), (.int p4), (.int (3 : Int32))])) _
          simpa only [v0_47_1, if_pos hc39_95] using k
        · refine XS.ifNo X70.here hx rfl (hb hby at_39) rfl ((if0 _ _).trans (feq hc39_95).1) ?_
          show Steps p.tables e below (T70.setTop (mkF m 42 #[.val (.int p1), .val (.int p2), .val (.int p3), .val (.int p4), .val (.int p5), .val (.ref r70), .val (.int (3 : Int32)), .unset, .unset, .unset] [(.int p5), (.int p4), (.int (3 : Int32))])) _
          refine XS.iconst X70.here hx rfl (hb hby at_42) ?_
          show Steps p.tables e below (T70.setTop (mkF m 43 #[.val (.int p1), .val (.int p2), .val (.int p3), .val (.int p4), .val (.int p5), .val (.ref r70), .val (.int (3 : Int32)), .unset, .unset, .unset] [(.int (1 : Int32)), (.int p5), (.int p4), (.int (3 : Int32))])) _
          refine XS.goto X70.here hx rfl (pc0 := 43) (pc' := 47) rfl (hb hby at_43) (by decide) (by decide) ?_
          show Steps p.tables e below (T70.setTop (mkF m 47 #[.val (.int p1), .val (.int p2), .val (.int p3), .val (.int p4), .val (.int p5), .val (.ref r70), .val (.int (3 : Int32)), .unset, .unset, .unset] [(.int (1 : Int32)), (.int p5), (.int p4), (.int (3 : Int32))])) _
          simpa only [v0_47_1, if_neg hc39_95] using k
      show Goes p e below (T70.setTop (mkF m 47 #[.val (.int p1), .val (.int p2), .val (.int p3), .val (.int p4), .val (.int p5), .val (.ref r70), .val (.int (3 : Int32)), .unset, .unset, .unset] [(.int (v0_47_1 p3)), (.int p5), (.int p4), (.int (3 : Int32))])) _
      obtain ⟨Lw96, X96w, N96w⟩ := ownPack X70 N70
      obtain ⟨_, _, ⟨T97, L97, k97, n97⟩, -, X97, ⟨Lc97, hQ97, l97, y97, z97⟩, st97⟩ := Jvm.LawKit.callS X96w hx (y := (⟨"cascabel/model/selector/TypeSelectorIsUniversalPinLaw", "pick", "(IIIZ)Ljava/lang/String;"⟩ : MethodName)) hown (mvT hZ (hw _ (List.mem_of_getElem? (i := 0) rfl))) (mvT hZ (hw _ (List.mem_of_getElem? (i := 1) rfl))) (mvT hZ (hw _ (List.mem_of_getElem? (i := 2) rfl))) (mvT hZ (hw _ (List.mem_of_getElem? (i := 3) rfl))) (by decide) (backOf (W := 0) (rm1_3 l Z a0 hw [] p4 p5 (v0_47_1 p3) w0 T70.heap n0 Z70 O70 St) hZ (hw _ (List.mem_of_getElem? (i := 3) rfl)) (hw _ (List.mem_of_getElem? (i := 2) rfl)) (by decide) (by decide)) (g := (mkF m 47 #[.val (.int p1), .val (.int p2), .val (.int p3), .val (.int p4), .val (.int p5), .val (.ref r70), .val (.int (3 : Int32)), .unset, .unset, .unset] [(.int (v0_47_1 p3)), (.int p5), (.int p4), (.int (3 : Int32))])) rfl (by rw [hml]; rfl) (argsL := [(.int (3 : Int32)), (.int p4), (.int p5), (.int (v0_47_1 p3))]) (rest := []) (lenOf pd_0_0 rfl) rfl (by show 2 * 0 + _ ≤ _; exact Nat.le_of_eq rfl) (hb hby at_47) (fun _ _ => ⟨rfl, rfl, (by decide : 2 + 4 ≤ _), (by decide : 8 + 8 ≤ _)⟩)
      dsimp only [Pt.U, Pt.locs, Pt.cells, Pt.slots] at X97 l97 y97 z97 st97 hQ97
      subst l97 y97 z97
      obtain ⟨r97, rfl, N97q, Kc97⟩ := hQ97
      have K97 : Keep h0 T97.heap [] := K70.trans Kc97 (fun x hx => nomatch hx)
      have Z97 : n0 ≤ T97.heap.size := Nat.le_trans Z70 Kc97.1
      have O97 := O70.keep Kc97 (fun x hx => nomatch hx)
      have hk := Nat.le_trans hk Kc97.1
      have N97 := Fr.app N96w N97q
      refine Goes.via st97 ?_
      show Goes p e below (T97.setTop (mkF m 50 #[.val (.int p1), .val (.int p2), .val (.int p3), .val (.int p4), .val (.int p5), .val (.ref r70), .val (.int (3 : Int32)), .unset, .unset, .unset] [(.ref r97)])) _
      refine Goes.via (fun t k => XS.astore X97.here hx rfl (hb hby at_50) rfl rfl (l' := #[.val (.int p1), .val (.int p2), .val (.int p3), .val (.int p4), .val (.int p5), .val (.ref r70), .val (.int (3 : Int32)), .val (.ref r97), .unset, .unset]) rfl k) ?_
      show Goes p e below (T97.setTop (mkF m 52 #[.val (.int p1), .val (.int p2), .val (.int p3), .val (.int p4), .val (.int p5), .val (.ref r70), .val (.int (3 : Int32)), .val (.ref r97), .unset, .unset] [])) _
      obtain ⟨T98, h98, X98, e98, E98, A98, D98, -, st98⟩ := newO X97 hx hZ hown (hw _ (List.mem_of_getElem? (i := 38) rfl)) (hw _ (List.mem_of_getElem? (i := 39) rfl)) (hw _ (List.mem_of_getElem? (i := 40) rfl)) rfl (g := (mkF m 52 #[.val (.int p1), .val (.int p2), .val (.int p3), .val (.int p4), .val (.int p5), .val (.ref r70), .val (.int (3 : Int32)), .val (.ref r97), .unset, .unset] [])) rfl (hb hby at_52) (by decide) (by decide)
      obtain ⟨b98, g98⟩ : ∃ z, z = T97.heap.size := ⟨_, rfl⟩
      rw [← g98] at A98 D98 st98
      have ge_b98 : n0 ≤ b98 := Nat.le_trans Z97 (Nat.le_of_eq g98.symm)
      have sz_b98 : h0.size ≤ b98 := Nat.le_trans K97.1 (Nat.le_of_eq g98.symm)
      have K98 : Keep h0 h98 [] := K97.ext E98
      have Z98 : n0 ≤ h98.size := Nat.le_trans Z97 E98.1
      have O98 := O97.ext E98
      have hk := Nat.le_trans hk E98.1
      have F98_offset : Fld Z h98 b98 "cascabel/model/selector/TypeSelector" "offset" "I" (.int (0 : Int32)) := D98 (Or.inr (hw _ (List.mem_of_getElem? (i := 51) rfl))) (ty := .int) (by decide)
      have F98_namespace : Fld Z h98 b98 "cascabel/model/selector/TypeSelector" "namespace" "Ljava/lang/String;" .null := D98 (Or.inr (hw _ (List.mem_of_getElem? (i := 53) rfl))) (ty := (.object "java/lang/String")) (by decide)
      have F98_name : Fld Z h98 b98 "cascabel/model/selector/TypeSelector" "name" "Ljava/lang/String;" .null := D98 (Or.inr (hw _ (List.mem_of_getElem? (i := 55) rfl))) (ty := (.object "java/lang/String")) (by decide)
      refine Goes.via st98 ?_
      show Goes p e below (T98.setTop (mkF m 55 #[.val (.int p1), .val (.int p2), .val (.int p3), .val (.int p4), .val (.int p5), .val (.ref r70), .val (.int (3 : Int32)), .val (.ref r97), .unset, .unset] [(.ref b98)])) _
      refine Goes.via (fun t k => XS.dup X98.here hx rfl (hb hby at_55) rfl rfl k) ?_
      show Goes p e below (T98.setTop (mkF m 56 #[.val (.int p1), .val (.int p2), .val (.int p3), .val (.int p4), .val (.int p5), .val (.ref r70), .val (.int (3 : Int32)), .val (.ref r97), .unset, .unset] [(.ref b98), (.ref b98)])) _
      refine Goes.via (fun t k => XS.iloadN X98.here hx rfl (hb hby at_56) rfl k) ?_
      show Goes p e below (T98.setTop (mkF m 57 #[.val (.int p1), .val (.int p2), .val (.int p3), .val (.int p4), .val (.int p5), .val (.ref r70), .val (.int (3 : Int32)), .val (.ref r97), .unset, .unset] [(.int p1), (.ref b98), (.ref b98)])) _
      refine Goes.via (fun t k => XS.aload X98.here hx rfl (hb hby at_57) rfl rfl k) ?_
      show Goes p e below (T98.setTop (mkF m 59 #[.val (.int p1), .val (.int p2), .val (.int p3), .val (.int p4), .val (.int p5), .val (.ref r70), .val (.int (3 : Int32)), .val (.ref r97), .unset, .unset] [(.ref r70), (.int p1), (.ref b98), (.ref b98)])) _
      refine Goes.via (fun t k => XS.aload X98.here hx rfl (hb hby at_59) rfl rfl k) ?_
      show Goes p e below (T98.setTop (mkF m 61 #[.val (.int p1), .val (.int p2), .val (.int p3), .val (.int p4), .val (.int p5), .val (.ref r70), .val (.int (3 : Int32)), .val (.ref r97), .unset, .unset] [(.ref r97), (.ref r70), (.int p1), (.ref b98), (.ref b98)])) _
      obtain ⟨Lw99, X99w, N99w⟩ := ownPack X98 N97
      obtain ⟨_, _, ⟨T100, L100, k100, n100⟩, -, X100, ⟨Lc100, hQ100, l100, y100, z100⟩, st100⟩ := X99w.specialBack hx (y := (⟨"cascabel/model/selector/TypeSelector", "<init>", "(ILjava/lang/String;Ljava/lang/String;)V"⟩ : MethodName)) rfl hown (mvT hZ (hw _ (List.mem_of_getElem? (i := 41) rfl))) (mvT hZ (hw _ (List.mem_of_getElem? (i := 42) rfl))) (mvT hZ (hw _ (List.mem_of_getElem? (i := 43) rfl))) (by decide) (backOf (W := 1) (rm8_11 l Z a0 hw [] b98 p1 r70 r97  h98 n0 Z98 A98 F98_offset F98_namespace F98_name ge_b98) hZ (hw _ (List.mem_of_getElem? (i := 43) rfl)) (hw _ (List.mem_of_getElem? (i := 40) rfl)) (by decide) (by decide)) (g := (mkF m 61 #[.val (.int p1), .val (.int p2), .val (.int p3), .val (.int p4), .val (.int p5), .val (.ref r70), .val (.int (3 : Int32)), .val (.ref r97), .unset, .unset] [(.ref r97), (.ref r70), (.int p1), (.ref b98), (.ref b98)])) rfl (by rw [hml]; rfl) (Steps.refl _) (a := b98) (argsL := [(.int p1), (.ref r70), (.ref r97)]) (rest := [(.ref b98)]) (lenOf pd_0_1 rfl) rfl (by show 2 * 0 + _ ≤ _; exact Nat.le_of_eq rfl) (hb hby at_61) (fun _ _ => ⟨rfl, e98, (by decide : 7 + 0 ≤ _), (by decide : 19 + 0 ≤ _)⟩)
      dsimp only [Pt.U, Pt.locs, Pt.cells, Pt.slots] at X100 l100 y100 z100 st100 hQ100
      subst l100 y100 z100
      obtain ⟨rfl, N100q, Kc100, Ec100, Fn100⟩ := hQ100
      have F100_41 := A98.keep Kc100
      have K100 : Keep h0 T100.heap [] := K98.trans Kc100 (fun x hx => by cases List.mem_singleton.mp hx; exact Or.inr sz_b98)
      have Z100 : n0 ≤ T100.heap.size := Nat.le_trans Z98 Kc100.1
      have O100 := O98.keep Kc100 (fun x hx => by cases List.mem_singleton.mp hx; exact ge_b98)
      have hk := Nat.le_trans hk Kc100.1
      have N100 := Fr.app N99w N100q
      refine Goes.via (fun t k => st100.trans k) ?_
      show Goes p e below (T100.setTop (mkF m 64 #[.val (.int p1), .val (.int p2), .val (.int p3), .val (.int p4), .val (.int p5), .val (.ref r70), .val (.int (3 : Int32)), .val (.ref r97), .unset, .unset] [(.ref b98)])) _
      refine Goes.via (fun t k => XS.astore X100.here hx rfl (hb hby at_64) rfl rfl (l' := #[.val (.int p1), .val (.int p2), .val (.int p3), .val (.int p4), .val (.int p5), .val (.ref r70), .val (.int (3 : Int32)), .val (.ref r97), .val (.ref b98), .unset]) rfl k) ?_
      show Goes p e below (T100.setTop (mkF m 66 #[.val (.int p1), .val (.int p2), .val (.int p3), .val (.int p4), .val (.int p5), .val (.ref r70), .val (.int (3 : Int32)), .val (.ref r97), .val (.ref b98), .unset] [])) _
      refine Goes.via (fun t k => XS.iload X100.here hx rfl (hb hby at_66) rfl k) ?_
      show Goes p e below (T100.setTop (mkF m 68 #[.val (.int p1), .val (.int p2), .val (.int p3), .val (.int p4), .val (.int p5), .val (.ref r70), .val (.int (3 : Int32)), .val (.ref r97), .val (.ref b98), .unset] [(.int (3 : Int32))])) _
      refine Goes.via (fun t k => XS.ifYes X100.here hx rfl (pc0 := 68) (pc' := 75) rfl (hb hby at_68) rfl ((if0 _ _).trans (feq (show ¬ ((3 : Int32) = (0 : Int32)) from (by decide))).2) (by decide) (by decide) k) ?_
      show Goes p e below (T100.setTop (mkF m 75 #[.val (.int p1), .val (.int p2), .val (.int p3), .val (.int p4), .val (.int p5), .val (.ref r70), .val (.int (3 : Int32)), .val (.ref r97), .val (.ref b98), .unset] [])) _
      refine Goes.via (fun t k => XS.iconst X100.here hx rfl (hb hby at_75) k) ?_
      show Goes p e below (T100.setTop (mkF m 76 #[.val (.int p1), .val (.int p2), .val (.int p3), .val (.int p4), .val (.int p5), .val (.ref r70), .val (.int (3 : Int32)), .val (.ref r97), .val (.ref b98), .unset] [(.int (0 : Int32))])) _
      refine Goes.via (fun t k => XS.istore X100.here hx rfl (hb hby at_76) rfl (l' := #[.val (.int p1), .val (.int p2), .val (.int p3), .val (.int p4), .val (.int p5), .val (.ref r70), .val (.int (3 : Int32)), .val (.ref r97), .val (.ref b98), .val (.int (0 : Int32))]) rfl k) ?_
      show Goes p e below (T100.setTop (mkF m 78 #[.val (.int p1), .val (.int p2), .val (.int p3), .val (.int p4), .val (.int p5), .val (.ref r70), .val (.int (3 : Int32)), .val (.ref r97), .val (.ref b98), .val (.int (0 : Int32))] [])) _
      refine Goes.via (fun t k => XS.aload X100.here hx rfl (hb hby at_78) rfl rfl k) ?_
      show Goes p e below (T100.setTop (mkF m 80 #[.val (.int p1), .val (.int p2), .val (.int p3), .val (.int p4), .val (.int p5), .val (.ref r70), .val (.int (3 : Int32)), .val (.ref r97), .val (.ref b98), .val (.int (0 : Int32))] [(.ref b98)])) _
      try clear Ec100; try clear Kc100; try clear N100q; try clear st100; try clear z100; try clear y100; try clear l100; try clear hQ100; try clear Lc100; try clear n100; try clear k100; try clear L100
      try clear N99w; try clear X99w; try clear Lw99; try clear F98_name; try clear F98_namespace; try clear F98_offset; try clear O98; try clear Z98; try clear K98; try clear size; try clear g98; try clear st98
      try clear D98; try clear A98; try clear E98; try clear e98; try clear X98; try clear h98; try clear T98; try clear N97; try clear O97; try clear Z97; try clear K97; try clear Kc97
      try clear N97q; try clear st97; try clear z97; try clear y97; try clear l97; try clear hQ97; try clear Lc97; try clear X97; try clear n97; try clear k97; try clear L97; try clear T97
      try clear N96w; try clear X96w; try clear Lw96; try clear N70; try clear O70; try clear Z70; try clear K70; try clear Kc70; try clear N70q; try clear hown70; try clear hZ70; try clear hS70
      try clear X70f; try clear st70; try clear z70; try clear y70; try clear l70; try clear hQ70; try clear Lc70; try clear sg70; try clear S70; try clear X70; try clear n70; try clear k70
      try clear L70; try clear T70
      obtain ⟨Lw101, X101w, N101w⟩ := ownPack X100 N100
      obtain ⟨cq102, kq102, q102a, q102b, q102c⟩ := isOf hZ rfl F100_41
      obtain ⟨_, _, ⟨T102, L102, k102, n102⟩, -, X102, ⟨Lc102, hQ102, l102, y102, z102⟩, st102⟩ := X101w.virtualBack hx (y := (⟨"cascabel/model/selector/TypeSelector", "isUniversal", "()Z"⟩ : MethodName)) (z := (⟨"cascabel/model/selector/TypeSelector", "isUniversal", "()Z"⟩ : MethodName)) hown (mvT hZ (hw _ (List.mem_of_getElem? (i := 56) rfl))) (mvT hZ (hw _ (List.mem_of_getElem? (i := 57) rfl))) (notFace_of_selects (args := #[]) (mvT hZ (hw _ (List.mem_of_getElem? (i := 59) rfl)))) (mvT hZ (hw _ (List.mem_of_getElem? (i := 59) rfl))) (mvT hZ (hw _ (List.mem_of_getElem? (i := 58) rfl))) (by decide) (backOf (W := 0) (rm10_1 l Z a0 hw [] b98 r97 T100.heap n0 Z100 Fn100) hZ (hw _ (List.mem_of_getElem? (i := 60) rfl)) (hw _ (List.mem_of_getElem? (i := 40) rfl)) (by decide) (by decide)) q102a q102c (g := (mkF m 80 #[.val (.int p1), .val (.int p2), .val (.int p3), .val (.int p4), .val (.int p5), .val (.ref r70), .val (.int (3 : Int32)), .val (.ref r97), .val (.ref b98), .val (.int (0 : Int32))] [(.ref b98)])) rfl (by rw [hml]; rfl) (Steps.refl _) (argsL := []) (rest := []) (lenOf pd_0_2 rfl) rfl (by show 2 * 0 + _ ≤ _; exact Nat.le_of_eq rfl) (hb hby at_80) (fun _ _ => ⟨rfl, rfl, (by decide : 7 + 0 ≤ _), (by decide : 19 + 0 ≤ _)⟩)
      dsimp only [Pt.U, Pt.locs, Pt.cells, Pt.slots] at X102 l102 y102 z102 st102 hQ102
      subst l102 y102 z102
      obtain ⟨rfl, N102q, er102⟩ := hQ102
      have e102 : T102.heap = T100.heap := er102
      have N102 := Fr.app N101w N102q
      refine Goes.via (fun t k => st102.trans k) ?_
      show Goes p e below (T102.setTop (mkF m 83 #[.val (.int p1), .val (.int p2), .val (.int p3), .val (.int p4), .val (.int p5), .val (.ref r70), .val (.int (3 : Int32)), .val (.ref r97), .val (.ref b98), .val (.int (0 : Int32))] [(.int (0 : Int32))])) _
      refine Goes.via (fun t k => XS.iload X102.here hx rfl (hb hby at_83) rfl k) ?_
      show Goes p e below (T102.setTop (mkF m 85 #[.val (.int p1), .val (.int p2), .val (.int p3), .val (.int p4), .val (.int p5), .val (.ref r70), .val (.int (3 : Int32)), .val (.ref r97), .val (.ref b98), .val (.int (0 : Int32))] [(.int (0 : Int32)), (.int (0 : Int32))])) _
      refine Goes.via (fun t k => XS.icmpNo X102.here hx rfl (hb hby at_85) rfl (teq (show (0 : Int32) = (0 : Int32) from rfl)).2 k) ?_
      show Goes p e below (T102.setTop (mkF m 88 #[.val (.int p1), .val (.int p2), .val (.int p3), .val (.int p4), .val (.int p5), .val (.ref r70), .val (.int (3 : Int32)), .val (.ref r97), .val (.ref b98), .val (.int (0 : Int32))] [])) _
      refine Goes.via (fun t k => XS.iconst X102.here hx rfl (hb hby at_88) k) ?_
      show Goes p e below (T102.setTop (mkF m 89 #[.val (.int p1), .val (.int p2), .val (.int p3), .val (.int p4), .val (.int p5), .val (.ref r70), .val (.int (3 : Int32)), .val (.ref r97), .val (.ref b98), .val (.int (0 : Int32))] [(.int (1 : Int32))])) _
      refine Goes.via (fun t k => XS.goto X102.here hx rfl (pc0 := 89) (pc' := 93) rfl (hb hby at_89) (by decide) (by decide) k) ?_
      show Goes p e below (T102.setTop (mkF m 93 #[.val (.int p1), .val (.int p2), .val (.int p3), .val (.int p4), .val (.int p5), .val (.ref r70), .val (.int (3 : Int32)), .val (.ref r97), .val (.ref b98), .val (.int (0 : Int32))] [(.int (1 : Int32))])) _
      obtain ⟨fs, hr, hrun, hended, hRE⟩ := X102.leaveW hS (by rw [e102]; exact hk) (v := some (.int (1 : Int32))) (fun h => by rw [Bd.returns] at h; cases h)
      refine ⟨_, _, ?_, hrun, hended, _, _, rfl, ?_, hRE.1, hRE.2.1, hRE.2.2.1, hRE.2.2.2.mono (by decide) (by decide)⟩
      · exact retN X102 hx (t := .boolean) Bd.returns (by simp) (hb hby at_93) hr
      · show Q0 Z  h0 n0 _ T102.heap _ _
        rw [e102]
        exact ⟨rfl, N102⟩
  · rw [hlA]
    show Goes p e below (s₁.setTop (mkF m 3 #[.val (.int p1), .val (.int p2), .val (.int p3), .val (.int p4), .val (.int p5), .unset, .unset, .unset, .unset, .unset] [(.int (3 : Int32))])) _
    refine Goes.via (fun t k => XS.iloadN X0.here hx rfl (hb hby at_3) rfl k) ?_
    show Goes p e below (s₁.setTop (mkF m 4 #[.val (.int p1), .val (.int p2), .val (.int p3), .val (.int p4), .val (.int p5), .unset, .unset, .unset, .unset, .unset] [(.int p4), (.int (3 : Int32))])) _
    refine Goes.via (fun t k => XS.iload X0.here hx rfl (hb hby at_4) rfl k) ?_
    show Goes p e below (s₁.setTop (mkF m 6 #[.val (.int p1), .val (.int p2), .val (.int p3), .val (.int p4), .val (.int p5), .unset, .unset, .unset, .unset, .unset] [(.int p5), (.int p4), (.int (3 : Int32))])) _
    refine Goes.via (fun t k => XS.iloadN X0.here hx rfl (hb hby at_6) rfl k) ?_
    show Goes p e below (s₁.setTop (mkF m 7 #[.val (.int p1), .val (.int p2), .val (.int p3), .val (.int p4), .val (.int p5), .unset, .unset, .unset, .unset, .unset] [(.int p2), (.int p5), (.int p4), (.int (3 : Int32))])) _
    refine Goes.via (fun t k => XS.iconst X0.here hx rfl (hb hby at_7) k) ?_
    show Goes p e below (s₁.setTop (mkF m 8 #[.val (.int p1), .val (.int p2), .val (.int p3), .val (.int p4), .val (.int p5), .unset, .unset, .unset, .unset, .unset] [(.int (2 : Int32)), (.int p2), (.int p5), (.int p4), (.int (3 : Int32))])) _
    refine Goes.via (fun t k => XS.iushr X0.here hx rfl (hb hby at_8) rfl k) ?_
    show Goes p e below (s₁.setTop (mkF m 9 #[.val (.int p1), .val (.int p2), .val (.int p3), .val (.int p4), .val (.int p5), .unset, .unset, .unset, .unset, .unset] [(.int ((p2.toUInt32 >>> ((2 : Int32) &&& 31).toUInt32).toInt32)), (.int p5), (.int p4), (.int (3 : Int32))])) _
    refine Goes.via (fun t k => XS.iconst X0.here hx rfl (hb hby at_9) k) ?_
    show Goes p e below (s₁.setTop (mkF m 10 #[.val (.int p1), .val (.int p2), .val (.int p3), .val (.int p4), .val (.int p5), .unset, .unset, .unset, .unset, .unset] [(.int (1 : Int32)), (.int ((p2.toUInt32 >>> ((2 : Int32) &&& 31).toUInt32).toInt32)), (.int p5), (.int p4), (.int (3 : Int32))])) _
    refine Goes.via (fun t k => XS.iand X0.here hx rfl (hb hby at_10) rfl k) ?_
    show Goes p e below (s₁.setTop (mkF m 11 #[.val (.int p1), .val (.int p2), .val (.int p3), .val (.int p4), .val (.int p5), .unset, .unset, .unset, .unset, .unset] [(.int (((p2.toUInt32 >>> ((2 : Int32) &&& 31).toUInt32).toInt32) &&& (1 : Int32))), (.int p5), (.int p4), (.int (3 : Int32))])) _
    refine Goes.via (next := s₁.setTop (mkF m 19 #[.val (.int p1), .val (.int p2), .val (.int p3), .val (.int p4), .val (.int p5), .unset, .unset, .unset, .unset, .unset] [(.int (v0_19_0 p2)), (.int p5), (.int p4), (.int (3 : Int32))])) (fun t k => ?_) ?_
    · by_cases hc11_103 : (((p2.toUInt32 >>> ((2 : Int32) &&& 31).toUInt32).toInt32) &&& (1 : Int32)) = (0 : Int32)
      · refine XS.ifYes X0.here hx rfl (pc0 := 11) (pc' := 18) rfl (hb hby at_11) rfl ((if0 _ _).trans (teq hc11_103).1) (by decide) (by decide) ?_
        show Steps p.tables e below (s₁.setTop (mkF m 18 #[.val (.int p1), .val (.int p2), .val (.int p3), .val (.int p4), .val (.int p5), .unset, .unset, .unset, .unset, .unset] [(.int p5), (.int p4), (.int (3 : Int32))])) _
        refine XS.iconst X0.here hx rfl (hb hby at_18) ?_
        show Steps p.tables e below (s₁.setTop (mkF m 19 #[.val (.int p1), .val (.int p2), .val (.int p3), .val (.int p4), .val (.int p5), .unset, .unset, .unset, .unset, .unset] [(.int (0 : Int32)), (.int p5), (.int p4), (.int (3 : Int32))])) _
        simpa only [v0_19_0, if_pos hc11_103] using k
      · refine XS.ifNo X0.here hx rfl (hb hby at_11) rfl ((if0 _ _).trans (feq hc11_103).1) ?_
        show Steps p.tables e below (s₁.setTop (mkF m 14 #[.val (.int p1), .val (.int p2), .val (.int p3), .val (.int p4), .val (.int p5), .unset, .unset, .unset, .unset, .unset] [(.int p5), (.int p4), (.int (3 : Int32))])) _
        refine XS.iconst X0.here hx rfl (hb hby at_14) ?_
        show Steps p.tables e below (s₁.setTop (mkF m 15 #[.val (.int p1), .val (.int p2), .val (.int p3), .val (.int p4), .val (.int p5), .unset, .unset, .unset, .unset, .unset] [(.int (1 : Int32)), (.int p5), (.int p4), (.int (3 : Int32))])) _
        refine XS.goto X0.here hx rfl (pc0 := 15) (pc' := 19) rfl (hb hby at_15) (by decide) (by decide) ?_
        show Steps p.tables e below (s₁.setTop (mkF m 19 #[.val (.int p1), .val (.int p2), .val (.int p3), .val (.int p4), .val (.int p5), .unset, .unset, .unset, .unset, .unset] [(.int (1 : Int32)), (.int p5), (.int p4), (.int (3 : Int32))])) _
        simpa only [v0_19_0, if_neg hc11_103] using k
    show Goes p e below (s₁.setTop (mkF m 19 #[.val (.int p1), .val (.int p2), .val (.int p3), .val (.int p4), .val (.int p5), .unset, .unset, .unset, .unset, .unset] [(.int (v0_19_0 p2)), (.int p5), (.int p4), (.int (3 : Int32))])) _
    obtain ⟨_, _, ⟨T104, L104, k104, n104⟩, -, X104, ⟨Lc104, hQ104, l104, y104, z104⟩, st104⟩ := Jvm.LawKit.callS X0 hx (y := (⟨"cascabel/model/selector/TypeSelectorIsUniversalPinLaw", "pick", "(IIIZ)Ljava/lang/String;"⟩ : MethodName)) hown (mvT hZ (hw _ (List.mem_of_getElem? (i := 0) rfl))) (mvT hZ (hw _ (List.mem_of_getElem? (i := 1) rfl))) (mvT hZ (hw _ (List.mem_of_getElem? (i := 2) rfl))) (mvT hZ (hw _ (List.mem_of_getElem? (i := 3) rfl))) (by decide) (backOf (W := 0) (rm1_3 l Z a0 hw [] p4 p5 (v0_19_0 p2) w0 h0 n0 Z0 O0 St) hZ (hw _ (List.mem_of_getElem? (i := 3) rfl)) (hw _ (List.mem_of_getElem? (i := 2) rfl)) (by decide) (by decide)) (g := (mkF m 19 #[.val (.int p1), .val (.int p2), .val (.int p3), .val (.int p4), .val (.int p5), .unset, .unset, .unset, .unset, .unset] [(.int (v0_19_0 p2)), (.int p5), (.int p4), (.int (3 : Int32))])) rfl (by rw [hml]; rfl) (argsL := [(.int (3 : Int32)), (.int p4), (.int p5), (.int (v0_19_0 p2))]) (rest := []) (lenOf pd_0_0 rfl) rfl (by show 2 * 0 + _ ≤ _; exact Nat.le_of_eq rfl) (hb hby at_19) (fun _ _ => ⟨rfl, e0, (by decide : 0 + 4 ≤ _), (by decide : 0 + 8 ≤ _)⟩)
    dsimp only [Pt.U, Pt.locs, Pt.cells, Pt.slots] at X104 l104 y104 z104 st104 hQ104
    subst l104 y104 z104
    obtain ⟨r104, rfl, N104q, Kc104⟩ := hQ104
    have K104 : Keep h0 T104.heap [] := (Keep.refl h0 []).trans Kc104 (fun x hx => nomatch hx)
    have Z104 : n0 ≤ T104.heap.size := Nat.le_trans Z0 Kc104.1
    have O104 := O0.keep Kc104 (fun x hx => nomatch hx)
    have hk := Nat.le_trans hk Kc104.1
    have N104 := Fr.app N0 N104q
    refine Goes.via st104 ?_
    show Goes p e below (T104.setTop (mkF m 22 #[.val (.int p1), .val (.int p2), .val (.int p3), .val (.int p4), .val (.int p5), .unset, .unset, .unset, .unset, .unset] [(.ref r104)])) _
    refine Goes.via (fun t k => XS.astore X104.here hx rfl (hb hby at_22) rfl rfl (l' := #[.val (.int p1), .val (.int p2), .val (.int p3), .val (.int p4), .val (.int p5), .val (.ref r104), .unset, .unset, .unset, .unset]) rfl k) ?_
    show Goes p e below (T104.setTop (mkF m 24 #[.val (.int p1), .val (.int p2), .val (.int p3), .val (.int p4), .val (.int p5), .val (.ref r104), .unset, .unset, .unset, .unset] [])) _
    refine Goes.via (fun t k => XS.iloadN X104.here hx rfl (hb hby at_24) rfl k) ?_
    show Goes p e below (T104.setTop (mkF m 25 #[.val (.int p1), .val (.int p2), .val (.int p3), .val (.int p4), .val (.int p5), .val (.ref r104), .unset, .unset, .unset, .unset] [(.int p3)])) _
    refine Goes.via (fun t k => XS.iconst X104.here hx rfl (hb hby at_25) k) ?_
    show Goes p e below (T104.setTop (mkF m 26 #[.val (.int p1), .val (.int p2), .val (.int p3), .val (.int p4), .val (.int p5), .val (.ref r104), .unset, .unset, .unset, .unset] [(.int (3 : Int32)), (.int p3)])) _
    refine Goes.via (fun t k => XS.iand X104.here hx rfl (hb hby at_26) rfl k) ?_
    show Goes p e below (T104.setTop (mkF m 27 #[.val (.int p1), .val (.int p2), .val (.int p3), .val (.int p4), .val (.int p5), .val (.ref r104), .unset, .unset, .unset, .unset] [(.int (p3 &&& (3 : Int32)))])) _
    rcases own_len p3 with hlB | hlB | hlB | hlB
    · rw [hlB]
      show Goes p e below (T104.setTop (mkF m 27 #[.val (.int p1), .val (.int p2), .val (.int p3), .val (.int p4), .val (.int p5), .val (.ref r104), .unset, .unset, .unset, .unset] [(.int (0 : Int32))])) _
      refine Goes.via (fun t k => XS.istore X104.here hx rfl (hb hby at_27) rfl (l' := #[.val (.int p1), .val (.int p2), .val (.int p3), .val (.int p4), .val (.int p5), .val (.ref r104), .val (.int (0 : Int32)), .unset, .unset, .unset]) rfl k) ?_
      show Goes p e below (T104.setTop (mkF m 29 #[.val (.int p1), .val (.int p2), .val (.int p3), .val (.int p4), .val (.int p5), .val (.ref r104), .val (.int (0 : Int32)), .unset, .unset, .unset] [])) _
      refine Goes.via (fun t k => XS.iload X104.here hx rfl (hb hby at_29) rfl k) ?_
      show Goes p e below (T104.setTop (mkF m 31 #[.val (.int p1), .val (.int p2), .val (.int p3), .val (.int p4), .val (.int p5), .val (.ref r104), .val (.int (0 : Int32)), .unset, .unset, .unset] [(.int (0 : Int32))])) _
      refine Goes.via (fun t k => XS.iloadN X104.here hx rfl (hb hby at_31) rfl k) ?_
      show Goes p e below (T104.setTop (mkF m 32 #[.val (.int p1), .val (.int p2), .val (.int p3), .val (.int p4), .val (.int p5), .val (.ref r104), .val (.int (0 : Int32)), .unset, .unset, .unset] [(.int p4), (.int (0 : Int32))])) _
      refine Goes.via (fun t k => XS.iload X104.here hx rfl (hb hby at_32) rfl k) ?_
      show Goes p e below (T104.setTop (mkF m 34 #[.val (.int p1), .val (.int p2), .val (.int p3), .val (.int p4), .val (.int p5), .val (.ref r104), .val (.int (0 : Int32)), .unset, .unset, .unset] [(.int p5), (.int p4), (.int (0 : Int32))])) _
      refine Goes.via (fun t k => XS.iloadN X104.here hx rfl (hb hby at_34) rfl k) ?_
      show Goes p e below (T104.setTop (mkF m 35 #[.val (.int p1), .val (.int p2), .val (.int p3), .val (.int p4), .val (.int p5), .val (.ref r104), .val (.int (0 : Int32)), .unset, .unset, .unset] [(.int p3), (.int p5), (.int p4), (.int (0 : Int32))])) _
      refine Goes.via (fun t k => XS.iconst X104.here hx rfl (hb hby at_35) k) ?_
      show Goes p e below (T104.setTop (mkF m 36 #[.val (.int p1), .val (.int p2), .val (.int p3), .val (.int p4), .val (.int p5), .val (.ref r104), .val (.int (0 : Int32)), .unset, .unset, .unset] [(.int (2 : Int32)), (.int p3), (.int p5), (.int p4), (.int (0 : Int32))])) _
      refine Goes.via (fun t k => XS.iushr X104.here hx rfl (hb hby at_36) rfl k) ?_
      show Goes p e below (T104.setTop (mkF m 37 #[.val (.int p1), .val (.int p2), .val (.int p3), .val (.int p4), .val (.int p5), .val (.ref r104), .val (.int (0 : Int32)), .unset, .unset, .unset] [(.int ((p3.toUInt32 >>> ((2 : Int32) &&& 31).toUInt32).toInt32)), (.int p5), (.int p4), (.int (0 : Int32))])) _
      refine Goes.via (fun t k => XS.iconst X104.here hx rfl (hb hby at_37) k) ?_
      show Goes p e below (T104.setTop (mkF m 38 #[.val (.int p1), .val (.int p2), .val (.int p3), .val (.int p4), .val (.int p5), .val (.ref r104), .val (.int (0 : Int32)), .unset, .unset, .unset] [(.int (1 : Int32)), (.int ((p3.toUInt32 >>> ((2 : Int32) &&& 31).toUInt32).toInt32)), (.int p5), (.int p4), (.int (0 : Int32))])) _
      refine Goes.via (fun t k => XS.iand X104.here hx rfl (hb hby at_38) rfl k) ?_
      show Goes p e below (T104.setTop (mkF m 39 #[.val (.int p1), .val (.int p2), .val (.int p3), .val (.int p4), .val (.int p5), .val (.ref r104), .val (.int (0 : Int32)), .unset, .unset, .unset] [(.int (((p3.toUInt32 >>> ((2 : Int32) &&& 31).toUInt32).toInt32) &&& (1 : Int32))), (.int p5), (.int p4), (.int (0 : Int32))])) _
      refine Goes.via (next := T104.setTop (mkF m 47 #[.val (.int p1), .val (.int p2), .val (.int p3), .val (.int p4), .val (.int p5), .val (.ref r104), .val (.int (0 : Int32)), .unset, .unset, .unset] [(.int (v0_47_1 p3)), (.int p5), (.int p4), (.int (0 : Int32))])) (fun t k => ?_) ?_
      · by_cases hc39_105 : (((p3.toUInt32 >>> ((2 : Int32) &&& 31).toUInt32).toInt32) &&& (1 : Int32)) = (0 : Int32)
        · refine XS.ifYes X104.here hx rfl (pc0 := 39) (pc' := 46) rfl (hb hby at_39) rfl ((if0 _ _).trans (teq hc39_105).1) (by decide) (by decide) ?_
          show Steps p.tables e below (T104.setTop (mkF m 46 #[.val (.int p1), .val (.int p2), .val (.int p3), .val (.int p4), .val (.int p5), .val (.ref r104), .val (.int (0 : Int32)), .unset, .unset, .unset] [(.int p5), (.int p4), (.int (0 : Int32))])) _
          refine XS.iconst X104.here hx rfl (hb hby at_46) ?_
          show Steps p.tables e below (T104.setTop (mkF m 47 #[.val (.int p1), .val (.int p2), .val (.int p3), .val (.int p4), .val (.int p5), .val (.ref r104), .val (.int (0 : Int32)), .unset, .unset, .unset] [(.int (0 : Int32)), (.int p5), (.int p4), (.int (0 : Int32))])) _
          simpa only [v0_47_1, if_pos hc39_105] using k
        · refine XS.ifNo X104.here hx rfl (hb hby at_39) rfl ((if0 _ _).trans (feq hc39_105).1) ?_
          show Steps p.tables e below (T104.setTop (mkF m 42 #[.val (.int p1), .val (.int p2), .val (.int p3), .val (.int p4), .val (.int p5), .val (.ref r104), .val (.int (0 : Int32)), .unset, .unset, .unset] [(.int p5), (.int p4), (.int (0 : Int32))])) _
          refine XS.iconst X104.here hx rfl (hb hby at_42) ?_
          show Steps p.tables e below (T104.setTop (mkF m 43 #[.val (.int p1), .val (.int p2), .val (.int p3), .val (.int p4), .val (.int p5), .val (.ref r104), .val (.int (0 : Int32)), .unset, .unset, .unset] [(.int (1 : Int32)), (.int p5), (.int p4), (.int (0 : Int32))])) _
          refine XS.goto X104.here hx rfl (pc0 := 43) (pc' := 47) rfl (hb hby at_43) (by decide) (by decide) ?_
          show Steps p.tables e below (T104.setTop (mkF m 47 #[.val (.int p1), .val (.int p2), .val (.int p3), .val (.int p4), .val (.int p5), .val (.ref r104), .val (.int (0 : Int32)), .unset, .unset, .unset] [(.int (1 : Int32)), (.int p5), (.int p4), (.int (0 : Int32))])) _
          simpa only [v0_47_1, if_neg hc39_105] using k
      show Goes p e below (T104.setTop (mkF m 47 #[.val (.int p1), .val (.int p2), .val (.int p3), .val (.int p4), .val (.int p5), .val (.ref r104), .val (.int (0 : Int32)), .unset, .unset, .unset] [(.int (v0_47_1 p3)), (.int p5), (.int p4), (.int (0 : Int32))])) _
      obtain ⟨Lw106, X106w, N106w⟩ := ownPack X104 N104
      obtain ⟨_, _, ⟨T107, L107, k107, n107⟩, -, X107, ⟨Lc107, hQ107, l107, y107, z107⟩, st107⟩ := Jvm.LawKit.callS X106w hx (y := (⟨"cascabel/model/selector/TypeSelectorIsUniversalPinLaw", "pick", "(IIIZ)Ljava/lang/String;"⟩ : MethodName)) hown (mvT hZ (hw _ (List.mem_of_getElem? (i := 0) rfl))) (mvT hZ (hw _ (List.mem_of_getElem? (i := 1) rfl))) (mvT hZ (hw _ (List.mem_of_getElem? (i := 2) rfl))) (mvT hZ (hw _ (List.mem_of_getElem? (i := 3) rfl))) (by decide) (backOf (W := 0) (rm1_0 l Z a0 hw [] p4 p5 (v0_47_1 p3)  T104.heap n0 Z104 ) hZ (hw _ (List.mem_of_getElem? (i := 3) rfl)) (hw _ (List.mem_of_getElem? (i := 2) rfl)) (by decide) (by decide)) (g := (mkF m 47 #[.val (.int p1), .val (.int p2), .val (.int p3), .val (.int p4), .val (.int p5), .val (.ref r104), .val (.int (0 : Int32)), .unset, .unset, .unset] [(.int (v0_47_1 p3)), (.int p5), (.int p4), (.int (0 : Int32))])) rfl (by rw [hml]; rfl) (argsL := [(.int (0 : Int32)), (.int p4), (.int p5), (.int (v0_47_1 p3))]) (rest := []) (lenOf pd_0_0 rfl) rfl (by show 2 * 0 + _ ≤ _; exact Nat.le_of_eq rfl) (hb hby at_47) (fun _ _ => ⟨rfl, rfl, (by decide : 4 + 0 ≤ _), (by decide : 8 + 0 ≤ _)⟩)
      dsimp only [Pt.U, Pt.locs, Pt.cells, Pt.slots] at X107 l107 y107 z107 st107 hQ107
      subst l107 y107 z107
      obtain ⟨rfl, N107q, er107⟩ := hQ107
      have e107 : T107.heap = T104.heap := er107
      have N107 := Fr.app N106w N107q
      refine Goes.via st107 ?_
      show Goes p e below (T107.setTop (mkF m 50 #[.val (.int p1), .val (.int p2), .val (.int p3), .val (.int p4), .val (.int p5), .val (.ref r104), .val (.int (0 : Int32)), .unset, .unset, .unset] [.null])) _
      refine Goes.via (fun t k => XS.astore X107.here hx rfl (hb hby at_50) rfl rfl (l' := #[.val (.int p1), .val (.int p2), .val (.int p3), .val (.int p4), .val (.int p5), .val (.ref r104), .val (.int (0 : Int32)), .val .null, .unset, .unset]) rfl k) ?_
      show Goes p e below (T107.setTop (mkF m 52 #[.val (.int p1), .val (.int p2), .val (.int p3), .val (.int p4), .val (.int p5), .val (.ref r104), .val (.int (0 : Int32)), .val .null, .unset, .unset] [])) _
      obtain ⟨T108, h108, X108, e108, E108, A108, D108, -, st108⟩ := newO X107 hx hZ hown (hw _ (List.mem_of_getElem? (i := 38) rfl)) (hw _ (List.mem_of_getElem? (i := 39) rfl)) (hw _ (List.mem_of_getElem? (i := 40) rfl)) e107 (g := (mkF m 52 #[.val (.int p1), .val (.int p2), .val (.int p3), .val (.int p4), .val (.int p5), .val (.ref r104), .val (.int (0 : Int32)), .val .null, .unset, .unset] [])) rfl (hb hby at_52) (by decide) (by decide)
      obtain ⟨b108, g108⟩ : ∃ z, z = T104.heap.size := ⟨_, rfl⟩
      rw [← g108] at A108 D108 st108
      have ge_b108 : n0 ≤ b108 := Nat.le_trans Z104 (Nat.le_of_eq g108.symm)
      have sz_b108 : h0.size ≤ b108 := Nat.le_trans K104.1 (Nat.le_of_eq g108.symm)
      have K108 : Keep h0 h108 [] := K104.ext E108
      have Z108 : n0 ≤ h108.size := Nat.le_trans Z104 E108.1
      have O108 := O104.ext E108
      have hk := Nat.le_trans hk E108.1
      have F108_offset : Fld Z h108 b108 "cascabel/model/selector/TypeSelector" "offset" "I" (.int (0 : Int32)) := D108 (Or.inr (hw _ (List.mem_of_getElem? (i := 51) rfl))) (ty := .int) (by decide)
      have F108_namespace : Fld Z h108 b108 "cascabel/model/selector/TypeSelector" "namespace" "Ljava/lang/String;" .null := D108 (Or.inr (hw _ (List.mem_of_getElem? (i := 53) rfl))) (ty := (.object "java/lang/String")) (by decide)
      have F108_name : Fld Z h108 b108 "cascabel/model/selector/TypeSelector" "name" "Ljava/lang/String;" .null := D108 (Or.inr (hw _ (List.mem_of_getElem? (i := 55) rfl))) (ty := (.object "java/lang/String")) (by decide)
      refine Goes.via st108 ?_
      show Goes p e below (T108.setTop (mkF m 55 #[.val (.int p1), .val (.int p2), .val (.int p3), .val (.int p4), .val (.int p5), .val (.ref r104), .val (.int (0 : Int32)), .val .null, .unset, .unset] [(.ref b108)])) _
      refine Goes.via (fun t k => XS.dup X108.here hx rfl (hb hby at_55) rfl rfl k) ?_
      show Goes p e below (T108.setTop (mkF m 56 #[.val (.int p1), .val (.int p2), .val (.int p3), .val (.int p4), .val (.int p5), .val (.ref r104), .val (.int (0 : Int32)), .val .null, .unset, .unset] [(.ref b108), (.ref b108)])) _
      refine Goes.via (fun t k => XS.iloadN X108.here hx rfl (hb hby at_56) rfl k) ?_
      show Goes p e below (T108.setTop (mkF m 57 #[.val (.int p1), .val (.int p2), .val (.int p3), .val (.int p4), .val (.int p5), .val (.ref r104), .val (.int (0 : Int32)), .val .null, .unset, .unset] [(.int p1), (.ref b108), (.ref b108)])) _
      refine Goes.via (fun t k => XS.aload X108.here hx rfl (hb hby at_57) rfl rfl k) ?_
      show Goes p e below (T108.setTop (mkF m 59 #[.val (.int p1), .val (.int p2), .val (.int p3), .val (.int p4), .val (.int p5), .val (.ref r104), .val (.int (0 : Int32)), .val .null, .unset, .unset] [(.ref r104), (.int p1), (.ref b108), (.ref b108)])) _
      refine Goes.via (fun t k => XS.aload X108.here hx rfl (hb hby at_59) rfl rfl k) ?_
      show Goes p e below (T108.setTop (mkF m 61 #[.val (.int p1), .val (.int p2), .val (.int p3), .val (.int p4), .val (.int p5), .val (.ref r104), .val (.int (0 : Int32)), .val .null, .unset, .unset] [.null, (.ref r104), (.int p1), (.ref b108), (.ref b108)])) _
      obtain ⟨Lw109, X109w, N109w⟩ := ownPack X108 N107
      obtain ⟨_, _, ⟨T110, L110, k110, n110⟩, -, X110, ⟨Lc110, hQ110, l110, y110, z110⟩, st110⟩ := X109w.specialBack hx (y := (⟨"cascabel/model/selector/TypeSelector", "<init>", "(ILjava/lang/String;Ljava/lang/String;)V"⟩ : MethodName)) rfl hown (mvT hZ (hw _ (List.mem_of_getElem? (i := 41) rfl))) (mvT hZ (hw _ (List.mem_of_getElem? (i := 42) rfl))) (mvT hZ (hw _ (List.mem_of_getElem? (i := 43) rfl))) (by decide) (backOf (W := 1) (rm8_10 l Z a0 hw [] b108 p1 r104  h108 n0 Z108 A108 F108_offset F108_namespace F108_name ge_b108) hZ (hw _ (List.mem_of_getElem? (i := 43) rfl)) (hw _ (List.mem_of_getElem? (i := 40) rfl)) (by decide) (by decide)) (g := (mkF m 61 #[.val (.int p1), .val (.int p2), .val (.int p3), .val (.int p4), .val (.int p5), .val (.ref r104), .val (.int (0 : Int32)), .val .null, .unset, .unset] [.null, (.ref r104), (.int p1), (.ref b108), (.ref b108)])) rfl (by rw [hml]; rfl) (Steps.refl _) (a := b108) (argsL := [(.int p1), (.ref r104), .null]) (rest := [(.ref b108)]) (lenOf pd_0_1 rfl) rfl (by show 2 * 0 + _ ≤ _; exact Nat.le_of_eq rfl) (hb hby at_61) (fun _ _ => ⟨rfl, e108, (by decide : 5 + 0 ≤ _), (by decide : 11 + 0 ≤ _)⟩)
      dsimp only [Pt.U, Pt.locs, Pt.cells, Pt.slots] at X110 l110 y110 z110 st110 hQ110
      subst l110 y110 z110
      obtain ⟨rfl, N110q, Kc110, Ec110, Fn110⟩ := hQ110
      have F110_38 := A108.keep Kc110
      have K110 : Keep h0 T110.heap [] := K108.trans Kc110 (fun x hx => by cases List.mem_singleton.mp hx; exact Or.inr sz_b108)
      have Z110 : n0 ≤ T110.heap.size := Nat.le_trans Z108 Kc110.1
      have O110 := O108.keep Kc110 (fun x hx => by cases List.mem_singleton.mp hx; exact ge_b108)
      have hk := Nat.le_trans hk Kc110.1
      have N110 := Fr.app N109w N110q
      refine Goes.via (fun t k => st110.trans k) ?_
      show Goes p e below (T110.setTop (mkF m 64 #[.val (.int p1), .val (.int p2), .val (.int p3), .val (.int p4), .val (.int p5), .val (.ref r104), .val (.int (0 : Int32)), .val .null, .unset, .unset] [(.ref b108)])) _
      refine Goes.via (fun t k => XS.astore X110.here hx rfl (hb hby at_64) rfl rfl (l' := #[.val (.int p1), .val (.int p2), .val (.int p3), .val (.int p4), .val (.int p5), .val (.ref r104), .val (.int (0 : Int32)), .val .null, .val (.ref b108), .unset]) rfl k) ?_
      show Goes p e below (T110.setTop (mkF m 66 #[.val (.int p1), .val (.int p2), .val (.int p3), .val (.int p4), .val (.int p5), .val (.ref r104), .val (.int (0 : Int32)), .val .null, .val (.ref b108), .unset] [])) _
      refine Goes.via (fun t k => XS.iload X110.here hx rfl (hb hby at_66) rfl k) ?_
      show Goes p e below (T110.setTop (mkF m 68 #[.val (.int p1), .val (.int p2), .val (.int p3), .val (.int p4), .val (.int p5), .val (.ref r104), .val (.int (0 : Int32)), .val .null, .val (.ref b108), .unset] [(.int (0 : Int32))])) _
      refine Goes.via (fun t k => XS.ifNo X110.here hx rfl (hb hby at_68) rfl ((if0 _ _).trans (teq (show (0 : Int32) = (0 : Int32) from rfl)).2) k) ?_
      show Goes p e below (T110.setTop (mkF m 71 #[.val (.int p1), .val (.int p2), .val (.int p3), .val (.int p4), .val (.int p5), .val (.ref r104), .val (.int (0 : Int32)), .val .null, .val (.ref b108), .unset] [])) _
      refine Goes.via (fun t k => XS.iconst X110.here hx rfl (hb hby at_71) k) ?_
      show Goes p e below (T110.setTop (mkF m 72 #[.val (.int p1), .val (.int p2), .val (.int p3), .val (.int p4), .val (.int p5), .val (.ref r104), .val (.int (0 : Int32)), .val .null, .val (.ref b108), .unset] [(.int (1 : Int32))])) _
      refine Goes.via (fun t k => XS.goto X110.here hx rfl (pc0 := 72) (pc' := 76) rfl (hb hby at_72) (by decide) (by decide) k) ?_
      show Goes p e below (T110.setTop (mkF m 76 #[.val (.int p1), .val (.int p2), .val (.int p3), .val (.int p4), .val (.int p5), .val (.ref r104), .val (.int (0 : Int32)), .val .null, .val (.ref b108), .unset] [(.int (1 : Int32))])) _
      refine Goes.via (fun t k => XS.istore X110.here hx rfl (hb hby at_76) rfl (l' := #[.val (.int p1), .val (.int p2), .val (.int p3), .val (.int p4), .val (.int p5), .val (.ref r104), .val (.int (0 : Int32)), .val .null, .val (.ref b108), .val (.int (1 : Int32))]) rfl k) ?_
      show Goes p e below (T110.setTop (mkF m 78 #[.val (.int p1), .val (.int p2), .val (.int p3), .val (.int p4), .val (.int p5), .val (.ref r104), .val (.int (0 : Int32)), .val .null, .val (.ref b108), .val (.int (1 : Int32))] [])) _
      refine Goes.via (fun t k => XS.aload X110.here hx rfl (hb hby at_78) rfl rfl k) ?_
      show Goes p e below (T110.setTop (mkF m 80 #[.val (.int p1), .val (.int p2), .val (.int p3), .val (.int p4), .val (.int p5), .val (.ref r104), .val (.int (0 : Int32)), .val .null, .val (.ref b108), .val (.int (1 : Int32))] [(.ref b108)])) _
      try clear Ec110; try clear Kc110; try clear N110q; try clear st110; try clear z110; try clear y110; try clear l110; try clear hQ110; try clear Lc110; try clear n110; try clear k110; try clear L110
      try clear N109w; try clear X109w; try clear Lw109; try clear F108_name; try clear F108_namespace; try clear F108_offset; try clear O108; try clear Z108; try clear K108; try clear size; try clear g108; try clear st108
      try clear D108; try clear A108; try clear E108; try clear e108; try clear X108; try clear h108; try clear T108; try clear N107; try clear e107; try clear er107; try clear N107q; try clear st107
      try clear z107; try clear y107; try clear l107; try clear hQ107; try clear Lc107; try clear X107; try clear n107; try clear k107; try clear L107; try clear T107; try clear N106w; try clear X106w
      try clear Lw106; try clear N104; try clear O104; try clear Z104; try clear K104; try clear Kc104; try clear N104q; try clear st104; try clear z104; try clear y104; try clear l104; try clear hQ104
      try clear Lc104; try clear X104; try clear n104; try clear k104; try clear L104; try clear T104
      obtain ⟨Lw111, X111w, N111w⟩ := ownPack X110 N110
      obtain ⟨cq112, kq112, q112a, q112b, q112c⟩ := isOf hZ rfl F110_38
      obtain ⟨_, _, ⟨T112, L112, k112, n112⟩, -, X112, ⟨Lc112, hQ112, l112, y112, z112⟩, st112⟩ := X111w.virtualBack hx (y := (⟨"cascabel/model/selector/TypeSelector", "isUniversal", "()Z"⟩ : MethodName)) (z := (⟨"cascabel/model/selector/TypeSelector", "isUniversal", "()Z"⟩ : MethodName)) hown (mvT hZ (hw _ (List.mem_of_getElem? (i := 56) rfl))) (mvT hZ (hw _ (List.mem_of_getElem? (i := 57) rfl))) (notFace_of_selects (args := #[]) (mvT hZ (hw _ (List.mem_of_getElem? (i := 59) rfl)))) (mvT hZ (hw _ (List.mem_of_getElem? (i := 59) rfl))) (mvT hZ (hw _ (List.mem_of_getElem? (i := 58) rfl))) (by decide) (backOf (W := 0) (rm10_0 l Z a0 hw [] b108  T110.heap n0 Z110 Fn110) hZ (hw _ (List.mem_of_getElem? (i := 60) rfl)) (hw _ (List.mem_of_getElem? (i := 40) rfl)) (by decide) (by decide)) q112a q112c (g := (mkF m 80 #[.val (.int p1), .val (.int p2), .val (.int p3), .val (.int p4), .val (.int p5), .val (.ref r104), .val (.int (0 : Int32)), .val .null, .val (.ref b108), .val (.int (1 : Int32))] [(.ref b108)])) rfl (by rw [hml]; rfl) (Steps.refl _) (argsL := []) (rest := []) (lenOf pd_0_2 rfl) rfl (by show 2 * 0 + _ ≤ _; exact Nat.le_of_eq rfl) (hb hby at_80) (fun _ _ => ⟨rfl, rfl, (by decide : 5 + 0 ≤ _), (by decide : 11 + 0 ≤ _)⟩)
      dsimp only [Pt.U, Pt.locs, Pt.cells, Pt.slots] at X112 l112 y112 z112 st112 hQ112
      subst l112 y112 z112
      obtain ⟨rfl, N112q, er112⟩ := hQ112
      have e112 : T112.heap = T110.heap := er112
      have N112 := Fr.app N111w N112q
      refine Goes.via (fun t k => st112.trans k) ?_
      show Goes p e below (T112.setTop (mkF m 83 #[.val (.int p1), .val (.int p2), .val (.int p3), .val (.int p4), .val (.int p5), .val (.ref r104), .val (.int (0 : Int32)), .val .null, .val (.ref b108), .val (.int (1 : Int32))] [(.int (1 : Int32))])) _
      refine Goes.via (fun t k => XS.iload X112.here hx rfl (hb hby at_83) rfl k) ?_
      show Goes p e below (T112.setTop (mkF m 85 #[.val (.int p1), .val (.int p2), .val (.int p3), .val (.int p4), .val (.int p5), .val (.ref r104), .val (.int (0 : Int32)), .val .null, .val (.ref b108), .val (.int (1 : Int32))] [(.int (1 : Int32)), (.int (1 : Int32))])) _
      refine Goes.via (fun t k => XS.icmpNo X112.here hx rfl (hb hby at_85) rfl (teq (show (1 : Int32) = (1 : Int32) from rfl)).2 k) ?_
      show Goes p e below (T112.setTop (mkF m 88 #[.val (.int p1), .val (.int p2), .val (.int p3), .val (.int p4), .val (.int p5), .val (.ref r104), .val (.int (0 : Int32)), .val .null, .val (.ref b108), .val (.int (1 : Int32))] [])) _
      refine Goes.via (fun t k => XS.iconst X112.here hx rfl (hb hby at_88) k) ?_
      show Goes p e below (T112.setTop (mkF m 89 #[.val (.int p1), .val (.int p2), .val (.int p3), .val (.int p4), .val (.int p5), .val (.ref r104), .val (.int (0 : Int32)), .val .null, .val (.ref b108), .val (.int (1 : Int32))] [(.int (1 : Int32))])) _
      refine Goes.via (fun t k => XS.goto X112.here hx rfl (pc0 := 89) (pc' := 93) rfl (hb hby at_89) (by decide) (by decide) k) ?_
      show Goes p e below (T112.setTop (mkF m 93 #[.val (.int p1), .val (.int p2), .val (.int p3), .val (.int p4), .val (.int p5), .val (.ref r104), .val (.int (0 : Int32)), .val .null, .val (.ref b108), .val (.int (1 : Int32))] [(.int (1 : Int32))])) _
      obtain ⟨fs, hr, hrun, hended, hRE⟩ := X112.leaveW hS (by rw [e112]; exact hk) (v := some (.int (1 : Int32))) (fun h => by rw [Bd.returns] at h; cases h)
      refine ⟨_, _, ?_, hrun, hended, _, _, rfl, ?_, hRE.1, hRE.2.1, hRE.2.2.1, hRE.2.2.2.mono (by decide) (by decide)⟩
      · exact retN X112 hx (t := .boolean) Bd.returns (by simp) (hb hby at_93) hr
      · show Q0 Z  h0 n0 _ T112.heap _ _
        rw [e112]
        exact ⟨rfl, N112⟩
    · rw [hlB]
      show Goes p e below (T104.setTop (mkF m 27 #[.val (.int p1), .val (.int p2), .val (.int p3), .val (.int p4), .val (.int p5), .val (.ref r104), .unset, .unset, .unset, .unset] [(.int (1 : Int32))])) _
      refine Goes.via (fun t k => XS.istore X104.here hx rfl (hb hby at_27) rfl (l' := #[.val (.int p1), .val (.int p2), .val (.int p3), .val (.int p4), .val (.int p5), .val (.ref r104), .val (.int (1 : Int32)), .unset, .unset, .unset]) rfl k) ?_
      show Goes p e below (T104.setTop (mkF m 29 #[.val (.int p1), .val (.int p2), .val (.int p3), .val (.int p4), .val (.int p5), .val (.ref r104), .val (.int (1 : Int32)), .unset, .unset, .unset] [])) _
      refine Goes.via (fun t k => XS.iload X104.here hx rfl (hb hby at_29) rfl k) ?_
      show Goes p e below (T104.setTop (mkF m 31 #[.val (.int p1), .val (.int p2), .val (.int p3), .val (.int p4), .val (.int p5), .val (.ref r104), .val (.int (1 : Int32)), .unset, .unset, .unset] [(.int (1 : Int32))])) _
      refine Goes.via (fun t k => XS.iloadN X104.here hx rfl (hb hby at_31) rfl k) ?_
      show Goes p e below (T104.setTop (mkF m 32 #[.val (.int p1), .val (.int p2), .val (.int p3), .val (.int p4), .val (.int p5), .val (.ref r104), .val (.int (1 : Int32)), .unset, .unset, .unset] [(.int p4), (.int (1 : Int32))])) _
      refine Goes.via (fun t k => XS.iload X104.here hx rfl (hb hby at_32) rfl k) ?_
      show Goes p e below (T104.setTop (mkF m 34 #[.val (.int p1), .val (.int p2), .val (.int p3), .val (.int p4), .val (.int p5), .val (.ref r104), .val (.int (1 : Int32)), .unset, .unset, .unset] [(.int p5), (.int p4), (.int (1 : Int32))])) _
      refine Goes.via (fun t k => XS.iloadN X104.here hx rfl (hb hby at_34) rfl k) ?_
      show Goes p e below (T104.setTop (mkF m 35 #[.val (.int p1), .val (.int p2), .val (.int p3), .val (.int p4), .val (.int p5), .val (.ref r104), .val (.int (1 : Int32)), .unset, .unset, .unset] [(.int p3), (.int p5), (.int p4), (.int (1 : Int32))])) _
      refine Goes.via (fun t k => XS.iconst X104.here hx rfl (hb hby at_35) k) ?_
      show Goes p e below (T104.setTop (mkF m 36 #[.val (.int p1), .val (.int p2), .val (.int p3), .val (.int p4), .val (.int p5), .val (.ref r104), .val (.int (1 : Int32)), .unset, .unset, .unset] [(.int (2 : Int32)), (.int p3), (.int p5), (.int p4), (.int (1 : Int32))])) _
      refine Goes.via (fun t k => XS.iushr X104.here hx rfl (hb hby at_36) rfl k) ?_
      show Goes p e below (T104.setTop (mkF m 37 #[.val (.int p1), .val (.int p2), .val (.int p3), .val (.int p4), .val (.int p5), .val (.ref r104), .val (.int (1 : Int32)), .unset, .unset, .unset] [(.int ((p3.toUInt32 >>> ((2 : Int32) &&& 31).toUInt32).toInt32)), (.int p5), (.int p4), (.int (1 : Int32))])) _
      refine Goes.via (fun t k => XS.iconst X104.here hx rfl (hb hby at_37) k) ?_
      show Goes p e below (T104.setTop (mkF m 38 #[.val (.int p1), .val (.int p2), .val (.int p3), .val (.int p4), .val (.int p5), .val (.ref r104), .val (.int (1 : Int32)), .unset, .unset, .unset] [(.int (1 : Int32)), (.int ((p3.toUInt32 >>> ((2 : Int32) &&& 31).toUInt32).toInt32)), (.int p5), (.int p4), (.int (1 : Int32))])) _
      refine Goes.via (fun t k => XS.iand X104.here hx rfl (hb hby at_38) rfl k) ?_
      show Goes p e below (T104.setTop (mkF m 39 #[.val (.int p1), .val (.int p2), .val (.int p3), .val (.int p4), .val (.int p5), .val (.ref r104), .val (.int (1 : Int32)), .unset, .unset, .unset] [(.int (((p3.toUInt32 >>> ((2 : Int32) &&& 31).toUInt32).toInt32) &&& (1 : Int32))), (.int p5), (.int p4), (.int (1 : Int32))])) _
      refine Goes.via (next := T104.setTop (mkF m 47 #[.val (.int p1), .val (.int p2), .val (.int p3), .val (.int p4), .val (.int p5), .val (.ref r104), .val (.int (1 : Int32)), .unset, .unset, .unset] [(.int (v0_47_1 p3)), (.int p5), (.int p4), (.int (1 : Int32))])) (fun t k => ?_) ?_
      · by_cases hc39_113 : (((p3.toUInt32 >>> ((2 : Int32) &&& 31).toUInt32).toInt32) &&& (1 : Int32)) = (0 : Int32)
        · refine XS.ifYes X104.here hx rfl (pc0 := 39) (pc' := 46) rfl (hb hby at_39) rfl ((if0 _ _).trans (teq hc39_113).1) (by decide) (by decide) ?_
          show Steps p.tables e below (T104.setTop (mkF m 46 #[.val (.int p1), .val (.int p2), .val (.int p3), .val (.int p4), .val (.int p5), .val (.ref r104), .val (.int (1 : Int32)), .unset, .unset, .unset] [(.int p5), (.int p4), (.int (1 : Int32))])) _
          refine XS.iconst X104.here hx rfl (hb hby at_46) ?_
          show Steps p.tables e below (T104.setTop (mkF m 47 #[.val (.int p1), .val (.int p2), .val (.int p3), .val (.int p4), .val (.int p5), .val (.ref r104), .val (.int (1 : Int32)), .unset, .unset, .unset] [(.int (0 : Int32)), (.int p5), (.int p4), (.int (1 : Int32))])) _
          simpa only [v0_47_1, if_pos hc39_113] using k
        · refine XS.ifNo X104.here hx rfl (hb hby at_39) rfl ((if0 _ _).trans (feq hc39_113).1) ?_
          show Steps p.tables e below (T104.setTop (mkF m 42 #[.val (.int p1), .val (.int p2), .val (.int p3), .val (.int p4), .val (.int p5), .val (.ref r104), .val (.int (1 : Int32)), .unset, .unset, .unset] [(.int p5), (.int p4), (.int (1 : Int32))])) _
          refine XS.iconst X104.here hx rfl (hb hby at_42) ?_
          show Steps p.tables e below (T104.setTop (mkF m 43 #[.val (.int p1), .val (.int p2), .val (.int p3), .val (.int p4), .val (.int p5), .val (.ref r104), .val (.int (1 : Int32)), .unset, .unset, .unset] [(.int (1 : Int32)), (.int p5), (.int p4), (.int (1 : Int32))])) _
          refine XS.goto X104.here hx rfl (pc0 := 43) (pc' := 47) rfl (hb hby at_43) (by decide) (by decide) ?_
          show Steps p.tables e below (T104.setTop (mkF m 47 #[.val (.int p1), .val (.int p2), .val (.int p3), .val (.int p4), .val (.int p5), .val (.ref r104), .val (.int (1 : Int32)), .unset, .unset, .unset] [(.int (1 : Int32)), (.int p5), (.int p4), (.int (1 : Int32))])) _
          simpa only [v0_47_1, if_neg hc39_113] using k
      show Goes p e below (T104.setTop (mkF m 47 #[.val (.int p1), .val (.int p2), .val (.int p3), .val (.int p4), .val (.int p5), .val (.ref r104), .val (.int (1 : Int32)), .unset, .unset, .unset] [(.int (v0_47_1 p3)), (.int p5), (.int p4), (.int (1 : Int32))])) _
      obtain ⟨Lw114, X114w, N114w⟩ := ownPack X104 N104
      obtain ⟨_, _, ⟨T115, L115, k115, n115⟩, -, X115, S115, sg115, ⟨Lc115, hQ115, l115, y115, z115⟩, st115⟩ := callSS X114w hx (y := (⟨"cascabel/model/selector/TypeSelectorIsUniversalPinLaw", "pick", "(IIIZ)Ljava/lang/String;"⟩ : MethodName)) hown (mvT hZ (hw _ (List.mem_of_getElem? (i := 0) rfl))) (mvT hZ (hw _ (List.mem_of_getElem? (i := 1) rfl))) (mvT hZ (hw _ (List.mem_of_getElem? (i := 2) rfl))) (mvT hZ (hw _ (List.mem_of_getElem? (i := 3) rfl))) (by decide) (ownBackS (W := 0) (I := fun vm => True) (rm1_1 l Z a0 hw [] p4 p5 (v0_47_1 p3) w0 T104.heap n0 Z104 O104 St) hZ (fun _ _ => trivial) (hw _ (List.mem_of_getElem? (i := 3) rfl)) (hw _ (List.mem_of_getElem? (i := 2) rfl)) (by decide) (by decide)) (g := (mkF m 47 #[.val (.int p1), .val (.int p2), .val (.int p3), .val (.int p4), .val (.int p5), .val (.ref r104), .val (.int (1 : Int32)), .unset, .unset, .unset] [(.int (v0_47_1 p3)), (.int p5), (.int p4), (.int (1 : Int32))])) rfl (by rw [hml]; rfl) (argsL := [(.int (1 : Int32)), (.int p4), (.int p5), (.int (v0_47_1 p3))]) (rest := []) (lenOf pd_0_0 rfl) rfl (by show 2 * 0 + _ ≤ _; exact Nat.le_of_eq rfl) (hb hby at_47) (fun _ _ => ⟨rfl, rfl, (by decide : 4 + 2 ≤ _), (by decide : 8 + 4 ≤ _)⟩)
      dsimp only [Pt.U, Pt.locs, Pt.cells, Pt.slots] at X115 l115 y115 z115 st115 hQ115 S115 sg115
      subst l115 y115 z115
      obtain ⟨X115f, hS115, hZ115, hown115⟩ := rebS hS hk X115 S115 sg115 hZ hown
      have X115 := X115f
      have hS := hS115
      have hZ := hZ115
      have hown := hown115
      have hk : T115.heap.size ≤ T115.heap.size := Nat.le_refl _
      obtain ⟨r115, rfl, N115q, Kc115⟩ := hQ115
      have K115 : Keep h0 T115.heap [] := K104.trans Kc115 (fun x hx => nomatch hx)
      have Z115 : n0 ≤ T115.heap.size := Nat.le_trans Z104 Kc115.1
      have O115 := O104.keep Kc115 (fun x hx => nomatch hx)
      have N115 := Fr.app N114w N115q
      refine Goes.via (fun t k => st115.trans k) ?_
      show Goes p e below (T115.setTop (mkF m 50 #[.val (.int p1), .val (.int p2), .val (.int p3), .val (.int p4), .val (.int p5), .val (.ref r104), .val (.int (1 : Int32)), .unset, .unset, .unset] [(.ref r115)])) _
      refine Goes.via (fun t k => XS.astore X115.here hx rfl (hb hby at_50) rfl rfl (l' := #[.val (.int p1), .val (.int p2), .val (.int p3), .val (.int p4), .val (.int p5), .val (.ref r104), .val (.int (1 : Int32)), .val (.ref r115), .unset, .unset]) rfl k) ?_
      show Goes p e below (T115.setTop (mkF m 52 #[.val (.int p1), .val (.int p2), .val (.int p3), .val (.int p4), .val (.int p5), .val (.ref r104), .val (.int (1 : Int32)), .val (.ref r115), .unset, .unset] [])) _
      obtain ⟨T116, h116, X116, e116, E116, A116, D116, -, st116⟩ := newO X115 hx hZ hown (hw _ (List.mem_of_getElem? (i := 38) rfl)) (hw _ (List.mem_of_getElem? (i := 39) rfl)) (hw _ (List.mem_of_getElem? (i := 40) rfl)) rfl (g := (mkF m 52 #[.val (.int p1), .val (.int p2), .val (.int p3), .val (.int p4), .val (.int p5), .val (.ref r104), .val (.int (1 : Int32)), .val (.ref r115), .unset, .unset] [])) rfl (hb hby at_52) (by decide) (by decide)
      obtain ⟨b116, g116⟩ : ∃ z, z = T115.heap.size := ⟨_, rfl⟩
      rw [← g116] at A116 D116 st116
      have ge_b116 : n0 ≤ b116 := Nat.le_trans Z115 (Nat.le_of_eq g116.symm)
      have sz_b116 : h0.size ≤ b116 := Nat.le_trans K115.1 (Nat.le_of_eq g116.symm)
      have K116 : Keep h0 h116 [] := K115.ext E116
      have Z116 : n0 ≤ h116.size := Nat.le_trans Z115 E116.1
      have O116 := O115.ext E116
      have hk := Nat.le_trans hk E116.1
      have F116_offset : Fld Z h116 b116 "cascabel/model/selector/TypeSelector" "offset" "I" (.int (0 : Int32)) := D116 (Or.inr (hw _ (List.mem_of_getElem? (i := 51) rfl))) (ty := .int) (by decide)
      have F116_namespace : Fld Z h116 b116 "cascabel/model/selector/TypeSelector" "namespace" "Ljava/lang/String;" .null := D116 (Or.inr (hw _ (List.mem_of_getElem? (i := 53) rfl))) (ty := (.object "java/lang/String")) (by decide)
      have F116_name : Fld Z h116 b116 "cascabel/model/selector/TypeSelector" "name" "Ljava/lang/String;" .null := D116 (Or.inr (hw _ (List.mem_of_getElem? (i := 55) rfl))) (ty := (.object "java/lang/String")) (by decide)
      refine Goes.via st116 ?_
      show Goes p e below (T116.setTop (mkF m 55 #[.val (.int p1), .val (.int p2), .val (.int p3), .val (.int p4), .val (.int p5), .val (.ref r104), .val (.int (1 : Int32)), .val (.ref r115), .unset, .unset] [(.ref b116)])) _
      refine Goes.via (fun t k => XS.dup X116.here hx rfl (hb hby at_55) rfl rfl k) ?_
      show Goes p e below (T116.setTop (mkF m 56 #[.val (.int p1), .val (.int p2), .val (.int p3), .val (.int p4), .val (.int p5), .val (.ref r104), .val (.int (1 : Int32)), .val (.ref r115), .unset, .unset] [(.ref b116), (.ref b116)])) _
      refine Goes.via (fun t k => XS.iloadN X116.here hx rfl (hb hby at_56) rfl k) ?_
      show Goes p e below (T116.setTop (mkF m 57 #[.val (.int p1), .val (.int p2), .val (.int p3), .val (.int p4), .val (.int p5), .val (.ref r104), .val (.int (1 : Int32)), .val (.ref r115), .unset, .unset] [(.int p1), (.ref b116), (.ref b116)])) _
      refine Goes.via (fun t k => XS.aload X116.here hx rfl (hb hby at_57) rfl rfl k) ?_
      show Goes p e below (T116.setTop (mkF m 59 #[.val (.int p1), .val (.int p2), .val (.int p3), .val (.int p4), .val (.int p5), .val (.ref r104), .val (.int (1 : Int32)), .val (.ref r115), .unset, .unset] [(.ref r104), (.int p1), (.ref b116), (.ref b116)])) _
      refine Goes.via (fun t k => XS.aload X116.here hx rfl (hb hby at_59) rfl rfl k) ?_
      show Goes p e below (T116.setTop (mkF m 61 #[.val (.int p1), .val (.int p2), .val (.int p3), .val (.int p4), .val (.int p5), .val (.ref r104), .val (.int (1 : Int32)), .val (.ref r115), .unset, .unset] [(.ref r115), (.ref r104), (.int p1), (.ref b116), (.ref b116)])) _
      obtain ⟨Lw117, X117w, N117w⟩ := ownPack X116 N115
      obtain ⟨_, _, ⟨T118, L118, k118, n118⟩, -, X118, ⟨Lc118, hQ118, l118, y118, z118⟩, st118⟩ := X117w.specialBack hx (y := (⟨"cascabel/model/selector/TypeSelector", "<init>", "(ILjava/lang/String;Ljava/lang/String;)V"⟩ : MethodName)) rfl hown (mvT hZ (hw _ (List.mem_of_getElem? (i := 41) rfl))) (mvT hZ (hw _ (List.mem_of_getElem? (i := 42) rfl))) (mvT hZ (hw _ (List.mem_of_getElem? (i := 43) rfl))) (by decide) (backOf (W := 1) (rm8_11 l Z a0 hw [] b116 p1 r104 r115  h116 n0 Z116 A116 F116_offset F116_namespace F116_name ge_b116) hZ (hw _ (List.mem_of_getElem? (i := 43) rfl)) (hw _ (List.mem_of_getElem? (i := 40) rfl)) (by decide) (by decide)) (g := (mkF m 61 #[.val (.int p1), .val (.int p2), .val (.int p3), .val (.int p4), .val (.int p5), .val (.ref r104), .val (.int (1 : Int32)), .val (.ref r115), .unset, .unset] [(.ref r115), (.ref r104), (.int p1), (.ref b116), (.ref b116)])) rfl (by rw [hml]; rfl) (Steps.refl _) (a := b116) (argsL := [(.int p1), (.ref r104), (.ref r115)]) (rest := [(.ref b116)]) (lenOf pd_0_1 rfl) rfl (by show 2 * 0 + _ ≤ _; exact Nat.le_of_eq rfl) (hb hby at_61) (fun _ _ => ⟨rfl, e116, (by decide : 7 + 0 ≤ _), (by decide : 15 + 0 ≤ _)⟩)
      dsimp only [Pt.U, Pt.locs, Pt.cells, Pt.slots] at X118 l118 y118 z118 st118 hQ118
      subst l118 y118 z118
      obtain ⟨rfl, N118q, Kc118, Ec118, Fn118⟩ := hQ118
      have F118_46 := A116.keep Kc118
      have K118 : Keep h0 T118.heap [] := K116.trans Kc118 (fun x hx => by cases List.mem_singleton.mp hx; exact Or.inr sz_b116)
      have Z118 : n0 ≤ T118.heap.size := Nat.le_trans Z116 Kc118.1
      have O118 := O116.keep Kc118 (fun x hx => by cases List.mem_singleton.mp hx; exact ge_b116)
      have hk := Nat.le_trans hk Kc118.1
      have N118 := Fr.app N117w N118q
      refine Goes.via (fun t k => st118.trans k) ?_
      show Goes p e below (T118.setTop (mkF m 64 #[.val (.int p1), .val (.int p2), .val (.int p3), .val (.int p4), .val (.int p5), .val (.ref r104), .val (.int (1 : Int32)), .val (.ref r115), .unset, .unset] [(.ref b116)])) _
      refine Goes.via (fun t k => XS.astore X118.here hx rfl (hb hby at_64) rfl rfl (l' := #[.val (.int p1), .val (.int p2), .val (.int p3), .val (.int p4), .val (.int p5), .val (.ref r104), .val (.int (1 : Int32)), .val (.ref r115), .val (.ref b116), .unset]) rfl k) ?_
      show Goes p e below (T118.setTop (mkF m 66 #[.val (.int p1), .val (.int p2), .val (.int p3), .val (.int p4), .val (.int p5), .val (.ref r104), .val (.int (1 : Int32)), .val (.ref r115), .val (.ref b116), .unset] [])) _
      refine Goes.via (fun t k => XS.iload X118.here hx rfl (hb hby at_66) rfl k) ?_
      show Goes p e below (T118.setTop (mkF m 68 #[.val (.int p1), .val (.int p2), .val (.int p3), .val (.int p4), .val (.int p5), .val (.ref r104), .val (.int (1 : Int32)), .val (.ref r115), .val (.ref b116), .unset] [(.int (1 : Int32))])) _
      refine Goes.via (fun t k => XS.ifYes X118.here hx rfl (pc0 := 68) (pc' := 75) rfl (hb hby at_68) rfl ((if0 _ _).trans (feq (show ¬ ((1 : Int32) = (0 : Int32)) from (by decide))).2) (by decide) (by decide) k) ?_
      show Goes p e below (T118.setTop (mkF m 75 #[.val (.int p1), .val (.int p2), .val (.int p3), .val (.int p4), .val (.int p5), .val (.ref r104), .val (.int (1 : Int32)), .val (.ref r115), .val (.ref b116), .unset] [])) _
      refine Goes.via (fun t k => XS.iconst X118.here hx rfl (hb hby at_75) k) ?_
      show Goes p e below (T118.setTop (mkF m 76 #[.val (.int p1), .val (.int p2), .val (.int p3), .val (.int p4), .val (.int p5), .val (.ref r104), .val (.int (1 : Int32)), .val (.ref r115), .val (.ref b116), .unset] [(.int (0 : Int32))])) _
      refine Goes.via (fun t k => XS.istore X118.here hx rfl (hb hby at_76) rfl (l' := #[.val (.int p1), .val (.int p2), .val (.int p3), .val (.int p4), .val (.int p5), .val (.ref r104), .val (.int (1 : Int32)), .val (.ref r115), .val (.ref b116), .val (.int (0 : Int32))]) rfl k) ?_
      show Goes p e below (T118.setTop (mkF m 78 #[.val (.int p1), .val (.int p2), .val (.int p3), .val (.int p4), .val (.int p5), .val (.ref r104), .val (.int (1 : Int32)), .val (.ref r115), .val (.ref b116), .val (.int (0 : Int32))] [])) _
      refine Goes.via (fun t k => XS.aload X118.here hx rfl (hb hby at_78) rfl rfl k) ?_
      show Goes p e below (T118.setTop (mkF m 80 #[.val (.int p1), .val (.int p2), .val (.int p3), .val (.int p4), .val (.int p5), .val (.ref r104), .val (.int (1 : Int32)), .val (.ref r115), .val (.ref b116), .val (.int (0 : Int32))] [(.ref b116)])) _
      try clear Ec118; try clear Kc118; try clear N118q; try clear st118; try clear z118; try clear y118; try clear l118; try clear hQ118; try clear Lc118; try clear n118; try clear k118; try clear L118
      try clear N117w; try clear X117w; try clear Lw117; try clear F116_name; try clear F116_namespace; try clear F116_offset; try clear O116; try clear Z116; try clear K116; try clear size; try clear g116; try clear st116
      try clear D116; try clear A116; try clear E116; try clear e116; try clear X116; try clear h116; try clear T116; try clear N115; try clear O115; try clear Z115; try clear K115; try clear Kc115
      try clear N115q; try clear hown115; try clear hZ115; try clear hS115; try clear X115f; try clear st115; try clear z115; try clear y115; try clear l115; try clear hQ115; try clear Lc115; try clear sg115
      try clear S115; try clear X115; try clear n115; try clear k115; try clear L115; try clear T115; try clear N114w; try clear X114w; try clear Lw114; try clear N104; try clear O104; try clear Z104
      try clear K104; try clear Kc104; try clear N104q; try clear st104; try clear z104; try clear y104; try clear l104; try clear hQ104; try clear Lc104; try clear X104; try clear n104; try clear k104
      try clear L104; try clear T104
      obtain ⟨Lw119, X119w, N119w⟩ := ownPack X118 N118
      obtain ⟨cq120, kq120, q120a, q120b, q120c⟩ := isOf hZ rfl F118_46
      obtain ⟨_, _, ⟨T120, L120, k120, n120⟩, -, X120, ⟨Lc120, hQ120, l120, y120, z120⟩, st120⟩ := X119w.virtualBack hx (y := (⟨"cascabel/model/selector/TypeSelector", "isUniversal", "()Z"⟩ : MethodName)) (z := (⟨"cascabel/model/selector/TypeSelector", "isUniversal", "()Z"⟩ : MethodName)) hown (mvT hZ (hw _ (List.mem_of_getElem? (i := 56) rfl))) (mvT hZ (hw _ (List.mem_of_getElem? (i := 57) rfl))) (notFace_of_selects (args := #[]) (mvT hZ (hw _ (List.mem_of_getElem? (i := 59) rfl)))) (mvT hZ (hw _ (List.mem_of_getElem? (i := 59) rfl))) (mvT hZ (hw _ (List.mem_of_getElem? (i := 58) rfl))) (by decide) (backOf (W := 0) (rm10_1 l Z a0 hw [] b116 r115 T118.heap n0 Z118 Fn118) hZ (hw _ (List.mem_of_getElem? (i := 60) rfl)) (hw _ (List.mem_of_getElem? (i := 40) rfl)) (by decide) (by decide)) q120a q120c (g := (mkF m 80 #[.val (.int p1), .val (.int p2), .val (.int p3), .val (.int p4), .val (.int p5), .val (.ref r104), .val (.int (1 : Int32)), .val (.ref r115), .val (.ref b116), .val (.int (0 : Int32))] [(.ref b116)])) rfl (by rw [hml]; rfl) (Steps.refl _) (argsL := []) (rest := []) (lenOf pd_0_2 rfl) rfl (by show 2 * 0 + _ ≤ _; exact Nat.le_of_eq rfl) (hb hby at_80) (fun _ _ => ⟨rfl, rfl, (by decide : 7 + 0 ≤ _), (by decide : 15 + 0 ≤ _)⟩)
      dsimp only [Pt.U, Pt.locs, Pt.cells, Pt.slots] at X120 l120 y120 z120 st120 hQ120
      subst l120 y120 z120
      obtain ⟨rfl, N120q, er120⟩ := hQ120
      have e120 : T120.heap = T118.heap := er120
      have N120 := Fr.app N119w N120q
      refine Goes.via (fun t k => st120.trans k) ?_
      show Goes p e below (T120.setTop (mkF m 83 #[.val (.int p1), .val (.int p2), .val (.int p3), .val (.int p4), .val (.int p5), .val (.ref r104), .val (.int (1 : Int32)), .val (.ref r115), .val (.ref b116), .val (.int (0 : Int32))] [(.int (0 : Int32))])) _
      refine Goes.via (fun t k => XS.iload X120.here hx rfl (hb hby at_83) rfl k) ?_
      show Goes p e below (T120.setTop (mkF m 85 #[.val (.int p1), .val (.int p2), .val (.int p3), .val (.int p4), .val (.int p5), .val (.ref r104), .val (.int (1 : Int32)), .val (.ref r115), .val (.ref b116), .val (.int (0 : Int32))] [(.int (0 : Int32)), (.int (0 : Int32))])) _
      refine Goes.via (fun t k => XS.icmpNo X120.here hx rfl (hb hby at_85) rfl (teq (show (0 : Int32) = (0 : Int32) from rfl)).2 k) ?_
      show Goes p e below (T120.setTop (mkF m 88 #[.val (.int p1), .val (.int p2), .val (.int p3), .val (.int p4), .val (.int p5), .val (.ref r104), .val (.int (1 : Int32)), .val (.ref r115), .val (.ref b116), .val (.int (0 : Int32))] [])) _
      refine Goes.via (fun t k => XS.iconst X120.here hx rfl (hb hby at_88) k) ?_
      show Goes p e below (T120.setTop (mkF m 89 #[.val (.int p1), .val (.int p2), .val (.int p3), .val (.int p4), .val (.int p5), .val (.ref r104), .val (.int (1 : Int32)), .val (.ref r115), .val (.ref b116), .val (.int (0 : Int32))] [(.int (1 : Int32))])) _
      refine Goes.via (fun t k => XS.goto X120.here hx rfl (pc0 := 89) (pc' := 93) rfl (hb hby at_89) (by decide) (by decide) k) ?_
      show Goes p e below (T120.setTop (mkF m 93 #[.val (.int p1), .val (.int p2), .val (.int p3), .val (.int p4), .val (.int p5), .val (.ref r104), .val (.int (1 : Int32)), .val (.ref r115), .val (.ref b116), .val (.int (0 : Int32))] [(.int (1 : Int32))])) _
      obtain ⟨fs, hr, hrun, hended, hRE⟩ := X120.leaveW hS (by rw [e120]; exact hk) (v := some (.int (1 : Int32))) (fun h => by rw [Bd.returns] at h; cases h)
      refine ⟨_, _, ?_, hrun, hended, _, _, rfl, ?_, hRE.1, hRE.2.1, hRE.2.2.1, hRE.2.2.2.mono (by decide) (by decide)⟩
      · exact retN X120 hx (t := .boolean) Bd.returns (by simp) (hb hby at_93) hr
      · show Q0 Z  h0 n0 _ T120.heap _ _
        rw [e120]
        exact ⟨rfl, N120⟩
    · rw [hlB]
      show Goes p e below (T104.setTop (mkF m 27 #[.val (.int p1), .val (.int p2), .val (.int p3), .val (.int p4), .val (.int p5), .val (.ref r104), .unset, .unset, .unset, .unset] [(.int (2 : Int32))])) _
      refine Goes.via (fun t k => XS.istore X104.here hx rfl (hb hby at_27) rfl (l' := #[.val (.int p1), .val (.int p2), .val (.int p3), .val (.int p4), .val (.int p5), .val (.ref r104), .val (.int (2 : Int32)), .unset, .unset, .unset]) rfl k) ?_
      show Goes p e below (T104.setTop (mkF m 29 #[.val (.int p1), .val (.int p2), .val (.int p3), .val (.int p4), .val (.int p5), .val (.ref r104), .val (.int (2 : Int32)), .unset, .unset, .unset] [])) _
      refine Goes.via (fun t k => XS.iload X104.here hx rfl (hb hby at_29) rfl k) ?_
      show Goes p e below (T104.setTop (mkF m 31 #[.val (.int p1), .val (.int p2), .val (.int p3), .val (.int p4), .val (.int p5), .val (.ref r104), .val (.int (2 : Int32)), .unset, .unset, .unset] [(.int (2 : Int32))])) _
      refine Goes.via (fun t k => XS.iloadN X104.here hx rfl (hb hby at_31) rfl k) ?_
      show Goes p e below (T104.setTop (mkF m 32 #[.val (.int p1), .val (.int p2), .val (.int p3), .val (.int p4), .val (.int p5), .val (.ref r104), .val (.int (2 : Int32)), .unset, .unset, .unset] [(.int p4), (.int (2 : Int32))])) _
      refine Goes.via (fun t k => XS.iload X104.here hx rfl (hb hby at_32) rfl k) ?_
      show Goes p e below (T104.setTop (mkF m 34 #[.val (.int p1), .val (.int p2), .val (.int p3), .val (.int p4), .val (.int p5), .val (.ref r104), .val (.int (2 : Int32)), .unset, .unset, .unset] [(.int p5), (.int p4), (.int (2 : Int32))])) _
      refine Goes.via (fun t k => XS.iloadN X104.here hx rfl (hb hby at_34) rfl k) ?_
      show Goes p e below (T104.setTop (mkF m 35 #[.val (.int p1), .val (.int p2), .val (.int p3), .val (.int p4), .val (.int p5), .val (.ref r104), .val (.int (2 : Int32)), .unset, .unset, .unset] [(.int p3), (.int p5), (.int p4), (.int (2 : Int32))])) _
      refine Goes.via (fun t k => XS.iconst X104.here hx rfl (hb hby at_35) k) ?_
      show Goes p e below (T104.setTop (mkF m 36 #[.val (.int p1), .val (.int p2), .val (.int p3), .val (.int p4), .val (.int p5), .val (.ref r104), .val (.int (2 : Int32)), .unset, .unset, .unset] [(.int (2 : Int32)), (.int p3), (.int p5), (.int p4), (.int (2 : Int32))])) _
      refine Goes.via (fun t k => XS.iushr X104.here hx rfl (hb hby at_36) rfl k) ?_
      show Goes p e below (T104.setTop (mkF m 37 #[.val (.int p1), .val (.int p2), .val (.int p3), .val (.int p4), .val (.int p5), .val (.ref r104), .val (.int (2 : Int32)), .unset, .unset, .unset] [(.int ((p3.toUInt32 >>> ((2 : Int32) &&& 31).toUInt32).toInt32)), (.int p5), (.int p4), (.int (2 : Int32))])) _
      refine Goes.via (fun t k => XS.iconst X104.here hx rfl (hb hby at_37) k) ?_
      show Goes p e below (T104.setTop (mkF m 38 #[.val (.int p1), .val (.int p2), .val (.int p3), .val (.int p4), .val (.int p5), .val (.ref r104), .val (.int (2 : Int32)), .unset, .unset, .unset] [(.int (1 : Int32)), (.int ((p3.toUInt32 >>> ((2 : Int32) &&& 31).toUInt32).toInt32)), (.int p5), (.int p4), (.int (2 : Int32))])) _
      refine Goes.via (fun t k => XS.iand X104.here hx rfl (hb hby at_38) rfl k) ?_
      show Goes p e below (T104.setTop (mkF m 39 #[.val (.int p1), .val (.int p2), .val (.int p3), .val (.int p4), .val (.int p5), .val (.ref r104), .val (.int (2 : Int32)), .unset, .unset, .unset] [(.int (((p3.toUInt32 >>> ((2 : Int32) &&& 31).toUInt32).toInt32) &&& (1 : Int32))), (.int p5), (.int p4), (.int (2 : Int32))])) _
      refine Goes.via (next := T104.setTop (mkF m 47 #[.val (.int p1), .val (.int p2), .val (.int p3), .val (.int p4), .val (.int p5), .val (.ref r104), .val (.int (2 : Int32)), .unset, .unset, .unset] [(.int (v0_47_1 p3)), (.int p5), (.int p4), (.int (2 : Int32))])) (fun t k => ?_) ?_
      · by_cases hc39_121 : (((p3.toUInt32 >>> ((2 : Int32) &&& 31).toUInt32).toInt32) &&& (1 : Int32)) = (0 : Int32)
        · refine XS.ifYes X104.here hx rfl (pc0 := 39) (pc' := 46) rfl (hb hby at_39) rfl ((if0 _ _).trans (teq hc39_121).1) (by decide) (by decide) ?_
          show Steps p.tables e below (T104.setTop (mkF m 46 #[.val (.int p1), .val (.int p2), .val (.int p3), .val (.int p4), .val (.int p5), .val (.ref r104), .val (.int (2 : Int32)), .unset, .unset, .unset] [(.int p5), (.int p4), (.int (2 : Int32))])) _
          refine XS.iconst X104.here hx rfl (hb hby at_46) ?_
          show Steps p.tables e below (T104.setTop (mkF m 47 #[.val (.int p1), .val (.int p2), .val (.int p3), .val (.int p4), .val (.int p5), .val (.ref r104), .val (.int (2 : Int32)), .unset, .unset, .unset] [(.int (0 : Int32)), (.int p5), (.int p4), (.int (2 : Int32))])) _
          simpa only [v0_47_1, if_pos hc39_121] using k
        · refine XS.ifNo X104.here hx rfl (hb hby at_39) rfl ((if0 _ _).trans (feq hc39_121).1) ?_
          show Steps p.tables e below (T104.setTop (mkF m 42 #[.val (.int p1), .val (.int p2), .val (.int p3), .val (.int p4), .val (.int p5), .val (.ref r104), .val (.int (2 : Int32)), .unset, .unset, .unset] [(.int p5), (.int p4), (.int (2 : Int32))])) _
          refine XS.iconst X104.here hx rfl (hb hby at_42) ?_
          show Steps p.tables e below (T104.setTop (mkF m 43 #[.val (.int p1), .val (.int p2), .val (.int p3), .val (.int p4), .val (.int p5), .val (.ref r104), .val (.int (2 : Int32)), .unset, .unset, .unset] [(.int (1 : Int32)), (.int p5), (.int p4), (.int (2 : Int32))])) _
          refine XS.goto X104.here hx rfl (pc0 := 43) (pc' := 47) rfl (hb hby at_43) (by decide) (by decide) ?_
          show Steps p.tables e below (T104.setTop (mkF m 47 #[.val (.int p1), .val (.int p2), .val (.int p3), .val (.int p4), .val (.int p5), .val (.ref r104), .val (.int (2 : Int32)), .unset, .unset, .unset] [(.int (1 : Int32)), (.int p5), (.int p4), (.int (2 : Int32))])) _
          simpa only [v0_47_1, if_neg hc39_121] using k
      show Goes p e below (T104.setTop (mkF m 47 #[.val (.int p1), .val (.int p2), .val (.int p3), .val (.int p4), .val (.int p5), .val (.ref r104), .val (.int (2 : Int32)), .unset, .unset, .unset] [(.int (v0_47_1 p3)), (.int p5), (.int p4), (.int (2 : Int32))])) _
      obtain ⟨Lw122, X122w, N122w⟩ := ownPack X104 N104
      obtain ⟨_, _, ⟨T123, L123, k123, n123⟩, -, X123, S123, sg123, ⟨Lc123, hQ123, l123, y123, z123⟩, st123⟩ := callSS X122w hx (y := (⟨"cascabel/model/selector/TypeSelectorIsUniversalPinLaw", "pick", "(IIIZ)Ljava/lang/String;"⟩ : MethodName)) hown (mvT hZ (hw _ (List.mem_of_getElem? (i := 0) rfl))) (mvT hZ (hw _ (List.mem_of_getElem? (i := 1) rfl))) (mvT hZ (hw _ (List.mem_of_getElem? (i := 2) rfl))) (mvT hZ (hw _ (List.mem_of_getElem? (i := 3) rfl))) (by decide) (ownBackS (W := 0) (I := fun vm => True) (rm1_2 l Z a0 hw [] p4 p5 (v0_47_1 p3) w0 T104.heap n0 Z104 O104 St) hZ (fun _ _ => trivial) (hw _ (List.mem_of_getElem? (i := 3) rfl)) (hw _ (List.mem_of_getElem? (i := 2) rfl)) (by decide) (by decide)) (g := (mkF m 47 #[.val (.int p1), .val (.int p2), .val (.int p3), .val (.int p4), .val (.int p5), .val (.ref r104), .val (.int (2 : Int32)), .unset, .unset, .unset] [(.int (v0_47_1 p3)), (.int p5), (.int p4), (.int (2 : Int32))])) rfl (by rw [hml]; rfl) (argsL := [(.int (2 : Int32)), (.int p4), (.int p5), (.int (v0_47_1 p3))]) (rest := []) (lenOf pd_0_0 rfl) rfl (by show 2 * 0 + _ ≤ _; exact Nat.le_of_eq rfl) (hb hby at_47) (fun _ _ => ⟨rfl, rfl, (by decide : 4 + 2 ≤ _), (by decide : 8 + 8 ≤ _)⟩)
      dsimp only [Pt.U, Pt.locs, Pt.cells, Pt.slots] at X123 l123 y123 z123 st123 hQ123 S123 sg123
      subst l123 y123 z123
      obtain ⟨X123f, hS123, hZ123, hown123⟩ := rebS hS hk X123 S123 sg123 hZ hown
      have X123 := X123f
      have hS := hS123
      have hZ := hZ123
      have hown := hown123
      have hk : T123.heap.size ≤ T123.heap.size := Nat.le_refl _
      obtain ⟨r123, rfl, N123q, Kc123⟩ := hQ123
      have K123 : Keep h0 T123.heap [] := K104.trans Kc123 (fun x hx => nomatch hx)
      have Z123 : n0 ≤ T123.heap.size := Nat.le_trans Z104 Kc123.1
      have O123 := O104.keep Kc123 (fun x hx => nomatch hx)
      have N123 := Fr.app N122w N123q
      refine Goes.via (fun t k => st123.trans k) ?_
      show Goes p e below (T123.setTop (mkF m 50 #[.val (.int p1), .val (.int p2), .val (.int p3), .val (.int p4), .val (.int p5), .val (.ref r104), .val (.int (2 : Int32)), .unset, .unset, .unset] [(.ref r123)])) _
      refine Goes.via (fun t k => XS.astore X123.here hx rfl (hb hby at_50) rfl rfl (l' := #[.val (.int p1), .val (.int p2), .val (.int p3), .val (.int p4), .val (.int p5), .val (.ref r104), .val (.int (2 : Int32)), .val (.ref r123), .unset, .unset]) rfl k) ?_
      show Goes p e below (T123.setTop (mkF m 52 #[.val (.int p1), .val (.int p2), .val (.int p3), .val (.int p4), .val (.int p5), .val (.ref r104), .val (.int (2 : Int32)), .val (.ref r123), .unset, .unset] [])) _
      obtain ⟨T124, h124, X124, e124, E124, A124, D124, -, st124⟩ := newO X123 hx hZ hown (hw _ (List.mem_of_getElem? (i := 38) rfl)) (hw _ (List.mem_of_getElem? (i := 39) rfl)) (hw _ (List.mem_of_getElem? (i := 40) rfl)) rfl (g := (mkF m 52 #[.val (.int p1), .val (.int p2), .val (.int p3), .val (.int p4), .val (.int p5), .val (.ref r104), .val (.int (2 : Int32)), .val (.ref r123), .unset, .unset] [])) rfl (hb hby at_52) (by decide) (by decide)
      obtain ⟨b124, g124⟩ : ∃ z, z = T123.heap.size := ⟨_, rfl⟩
      rw [← g124] at A124 D124 st124
      have ge_b124 : n0 ≤ b124 := Nat.le_trans Z123 (Nat.le_of_eq g124.symm)
      have sz_b124 : h0.size ≤ b124 := Nat.le_trans K123.1 (Nat.le_of_eq g124.symm)
      have K124 : Keep h0 h124 [] := K123.ext E124
      have Z124 : n0 ≤ h124.size := Nat.le_trans Z123 E124.1
      have O124 := O123.ext E124
      have hk := Nat.le_trans hk E124.1
      have F124_offset : Fld Z h124 b124 "cascabel/model/selector/TypeSelector" "offset" "I" (.int (0 : Int32)) := D124 (Or.inr (hw _ (List.mem_of_getElem? (i := 51) rfl))) (ty := .int) (by decide)
      have F124_namespace : Fld Z h124 b124 "cascabel/model/selector/TypeSelector" "namespace" "Ljava/lang/String;" .null := D124 (Or.inr (hw _ (List.mem_of_getElem? (i := 53) rfl))) (ty := (.object "java/lang/String")) (by decide)
      have F124_name : Fld Z h124 b124 "cascabel/model/selector/TypeSelector" "name" "Ljava/lang/String;" .null := D124 (Or.inr (hw _ (List.mem_of_getElem? (i := 55) rfl))) (ty := (.object "java/lang/String")) (by decide)
      refine Goes.via st124 ?_
      show Goes p e below (T124.setTop (mkF m 55 #[.val (.int p1), .val (.int p2), .val (.int p3), .val (.int p4), .val (.int p5), .val (.ref r104), .val (.int (2 : Int32)), .val (.ref r123), .unset, .unset] [(.ref b124)])) _
      refine Goes.via (fun t k => XS.dup X124.here hx rfl (hb hby at_55) rfl rfl k) ?_
      show Goes p e below (T124.setTop (mkF m 56 #[.val (.int p1), .val (.int p2), .val (.int p3), .val (.int p4), .val (.int p5), .val (.ref r104), .val (.int (2 : Int32)), .val (.ref r123), .unset, .unset] [(.ref b124), (.ref b124)])) _
      refine Goes.via (fun t k => XS.iloadN X124.here hx rfl (hb hby at_56) rfl k) ?_
      show Goes p e below (T124.setTop (mkF m 57 #[.val (.int p1), .val (.int p2), .val (.int p3), .val (.int p4), .val (.int p5), .val (.ref r104), .val (.int (2 : Int32)), .val (.ref r123), .unset, .unset] [(.int p1), (.ref b124), (.ref b124)])) _
      refine Goes.via (fun t k => XS.aload X124.here hx rfl (hb hby at_57) rfl rfl k) ?_
      show Goes p e below (T124.setTop (mkF m 59 #[.val (.int p1), .val (.int p2), .val (.int p3), .val (.int p4), .val (.int p5), .val (.ref r104), .val (.int (2 : Int32)), .val (.ref r123), .unset, .unset] [(.ref r104), (.int p1), (.ref b124), (.ref b124)])) _
      refine Goes.via (fun t k => XS.aload X124.here hx rfl (hb hby at_59) rfl rfl k) ?_
      show Goes p e below (T124.setTop (mkF m 61 #[.val (.int p1), .val (.int p2), .val (.int p3), .val (.int p4), .val (.int p5), .val (.ref r104), .val (.int (2 : Int32)), .val (.ref r123), .unset, .unset] [(.ref r123), (.ref r104), (.int p1), (.ref b124), (.ref b124)])) _
      obtain ⟨Lw125, X125w, N125w⟩ := ownPack X124 N123
      obtain ⟨_, _, ⟨T126, L126, k126, n126⟩, -, X126, ⟨Lc126, hQ126, l126, y126, z126⟩, st126⟩ := X125w.specialBack hx (y := (⟨"cascabel/model/selector/TypeSelector", "<init>", "(ILjava/lang/String;Ljava/lang/String;)V"⟩ : MethodName)) rfl hown (mvT hZ (hw _ (List.mem_of_getElem? (i := 41) rfl))) (mvT hZ (hw _ (List.mem_of_getElem? (i := 42) rfl))) (mvT hZ (hw _ (List.mem_of_getElem? (i := 43) rfl))) (by decide) (backOf (W := 1) (rm8_11 l Z a0 hw [] b124 p1 r104 r123  h124 n0 Z124 A124 F124_offset F124_namespace F124_name ge_b124) hZ (hw _ (List.mem_of_getElem? (i := 43) rfl)) (hw _ (List.mem_of_getElem? (i := 40) rfl)) (by decide) (by decide)) (g := (mkF m 61 #[.val (.int p1), .val (.int p2), .val (.int p3), .val (.int p4), .val (.int p5), .val (.ref r104), .val (.int (2 : Int32)), .val (.ref r123), .unset, .unset] [(.ref r123), (.ref r104), (.int p1), (.ref b124), (.ref b124)])) rfl (by rw [hml]; rfl) (Steps.refl _) (a := b124) (argsL := [(.int p1), (.ref r104), (.ref r123)]) (rest := [(.ref b124)]) (lenOf pd_0_1 rfl) rfl (by show 2 * 0 + _ ≤ _; exact Nat.le_of_eq rfl) (hb hby at_61) (fun _ _ => ⟨rfl, e124, (by decide : 7 + 0 ≤ _), (by decide : 19 + 0 ≤ _)⟩)
      dsimp only [Pt.U, Pt.locs, Pt.cells, Pt.slots] at X126 l126 y126 z126 st126 hQ126
      subst l126 y126 z126
      obtain ⟨rfl, N126q, Kc126, Ec126, Fn126⟩ := hQ126
      have F126_46 := A124.keep Kc126
      have K126 : Keep h0 T126.heap [] := K124.trans Kc126 (fun x hx => by cases List.mem_singleton.mp hx; exact Or.inr sz_b124)
      have Z126 : n0 ≤ T126.heap.size := Nat.le_trans Z124 Kc126.1
      have O126 := O124.keep Kc126 (fun x hx => by cases List.mem_singleton.mp hx; exact ge_b124)
      have hk := Nat.le_trans hk Kc126.1
      have N126 := Fr.app N125w N126q
      refine Goes.via (fun t k => st126.trans k) ?_
      show Goes p e below (T126.setTop (mkF m 64 #[.val (.int p1), .val (.int p2), .val (.int p3), .val (.int p4), .val (.int p5), .val (.ref r104), .val (.int (2 : Int32)), .val (.ref r123), .unset, .unset] [(.ref b124)])) _
      refine Goes.via (fun t k => XS.astore X126.here hx rfl (hb hby at_64) rfl rfl (l' := #[.val (.int p1), .val (.int p2), .val (.int p3), .val (.int p4), .val (.int p5), .val (.ref r104), .val (.int (2 : Int32)), .val (.ref r123), .val (.ref b124), .unset]) rfl k) ?_
      show Goes p e below (T126.setTop (mkF m 66 #[.val (.int p1), .val (.int p2), .val (.int p3), .val (.int p4), .val (.int p5), .val (.ref r104), .val (.int (2 : Int32)), .val (.ref r123), .val (.ref b124), .unset] [])) _
      refine Goes.via (fun t k => XS.iload X126.here hx rfl (hb hby at_66) rfl k) ?_
      show Goes p e below (T126.setTop (mkF m 68 #[.val (.int p1), .val (.int p2), .val (.int p3), .val (.int p4), .val (.int p5), .val (.ref r104), .val (.int (2 : Int32)), .val (.ref r123), .val (.ref b124), .unset] [(.int (2 : Int32))])) _
      refine Goes.via (fun t k => XS.ifYes X126.here hx rfl (pc0 := 68) (pc' := 75) rfl (hb hby at_68) rfl ((if0 _ _).trans (feq (show ¬ ((2 : Int32) = (0 : Int32)) from (by decide))).2) (by decide) (by decide) k) ?_
      show Goes p e below (T126.setTop (mkF m 75 #[.val (.int p1), .val (.int p2), .val (.int p3), .val (.int p4), .val (.int p5), .val (.ref r104), .val (.int (2 : Int32)), .val (.ref r123), .val (.ref b124), .unset] [])) _
      refine Goes.via (fun t k => XS.iconst X126.here hx rfl (hb hby at_75) k) ?_
      show Goes p e below (T126.setTop (mkF m 76 #[.val (.int p1), .val (.int p2), .val (.int p3), .val (.int p4), .val (.int p5), .val (.ref r104), .val (.int (2 : Int32)), .val (.ref r123), .val (.ref b124), .unset] [(.int (0 : Int32))])) _
      refine Goes.via (fun t k => XS.istore X126.here hx rfl (hb hby at_76) rfl (l' := #[.val (.int p1), .val (.int p2), .val (.int p3), .val (.int p4), .val (.int p5), .val (.ref r104), .val (.int (2 : Int32)), .val (.ref r123), .val (.ref b124), .val (.int (0 : Int32))]) rfl k) ?_
      show Goes p e below (T126.setTop (mkF m 78 #[.val (.int p1), .val (.int p2), .val (.int p3), .val (.int p4), .val (.int p5), .val (.ref r104), .val (.int (2 : Int32)), .val (.ref r123), .val (.ref b124), .val (.int (0 : Int32))] [])) _
      refine Goes.via (fun t k => XS.aload X126.here hx rfl (hb hby at_78) rfl rfl k) ?_
      show Goes p e below (T126.setTop (mkF m 80 #[.val (.int p1), .val (.int p2), .val (.int p3), .val (.int p4), .val (.int p5), .val (.ref r104), .val (.int (2 : Int32)), .val (.ref r123), .val (.ref b124), .val (.int (0 : Int32))] [(.ref b124)])) _
      try clear Ec126; try clear Kc126; try clear N126q; try clear st126; try clear z126; try clear y126; try clear l126; try clear hQ126; try clear Lc126; try clear n126; try clear k126; try clear L126
      try clear N125w; try clear X125w; try clear Lw125; try clear F124_name; try clear F124_namespace; try clear F124_offset; try clear O124; try clear Z124; try clear K124; try clear size; try clear g124; try clear st124
      try clear D124; try clear A124; try clear E124; try clear e124; try clear X124; try clear h124; try clear T124; try clear N123; try clear O123; try clear Z123; try clear K123; try clear Kc123
      try clear N123q; try clear hown123; try clear hZ123; try clear hS123; try clear X123f; try clear st123; try clear z123; try clear y123; try clear l123; try clear hQ123; try clear Lc123; try clear sg123
      try clear S123; try clear X123; try clear n123; try clear k123; try clear L123; try clear T123; try clear N122w; try clear X122w; try clear Lw122; try clear N104; try clear O104; try clear Z104
      try clear K104; try clear Kc104; try clear N104q; try clear st104; try clear z104; try clear y104; try clear l104; try clear hQ104; try clear Lc104; try clear X104; try clear n104; try clear k104
      try clear L104; try clear T104
      obtain ⟨Lw127, X127w, N127w⟩ := ownPack X126 N126
      obtain ⟨cq128, kq128, q128a, q128b, q128c⟩ := isOf hZ rfl F126_46
      obtain ⟨_, _, ⟨T128, L128, k128, n128⟩, -, X128, ⟨Lc128, hQ128, l128, y128, z128⟩, st128⟩ := X127w.virtualBack hx (y := (⟨"cascabel/model/selector/TypeSelector", "isUniversal", "()Z"⟩ : MethodName)) (z := (⟨"cascabel/model/selector/TypeSelector", "isUniversal", "()Z"⟩ : MethodName)) hown (mvT hZ (hw _ (List.mem_of_getElem? (i := 56) rfl))) (mvT hZ (hw _ (List.mem_of_getElem? (i := 57) rfl))) (notFace_of_selects (args := #[]) (mvT hZ (hw _ (List.mem_of_getElem? (i := 59) rfl)))) (mvT hZ (hw _ (List.mem_of_getElem? (i := 59) rfl))) (mvT hZ (hw _ (List.mem_of_getElem? (i := 58) rfl))) (by decide) (backOf (W := 0) (rm10_1 l Z a0 hw [] b124 r123 T126.heap n0 Z126 Fn126) hZ (hw _ (List.mem_of_getElem? (i := 60) rfl)) (hw _ (List.mem_of_getElem? (i := 40) rfl)) (by decide) (by decide)) q128a q128c (g := (mkF m 80 #[.val (.int p1), .val (.int p2), .val (.int p3), .val (.int p4), .val (.int p5), .val (.ref r104), .val (.int (2 : Int32)), .val (.ref r123), .val (.ref b124), .val (.int (0 : Int32))] [(.ref b124)])) rfl (by rw [hml]; rfl) (Steps.refl _) (argsL := []) (rest := []) (lenOf pd_0_2 rfl) rfl (by show 2 * 0 + _ ≤ _; exact Nat.le_of_eq rfl) (hb hby at_80) (fun _ _ => ⟨rfl, rfl, (by decide : 7 + 0 ≤ _), (by decide : 19 + 0 ≤ _)⟩)
      dsimp only [Pt.U, Pt.locs, Pt.cells, Pt.slots] at X128 l128 y128 z128 st128 hQ128
      subst l128 y128 z128
      obtain ⟨rfl, N128q, er128⟩ := hQ128
      have e128 : T128.heap = T126.heap := er128
      have N128 := Fr.app N127w N128q
      refine Goes.via (fun t k => st128.trans k) ?_
      show Goes p e below (T128.setTop (mkF m 83 #[.val (.int p1), .val (.int p2), .val (.int p3), .val (.int p4), .val (.int p5), .val (.ref r104), .val (.int (2 : Int32)), .val (.ref r123), .val (.ref b124), .val (.int (0 : Int32))] [(.int (0 : Int32))])) _
      refine Goes.via (fun t k => XS.iload X128.here hx rfl (hb hby at_83) rfl k) ?_
      show Goes p e below (T128.setTop (mkF m 85 #[.val (.int p1), .val (.int p2), .val (.int p3), .val (.int p4), .val (.int p5), .val (.ref r104), .val (.int (2 : Int32)), .val (.ref r123), .val (.ref b124), .val (.int (0 : Int32))] [(.int (0 : Int32)), (.int (0 : Int32))])) _
      refine Goes.via (fun t k => XS.icmpNo X128.here hx rfl (hb hby at_85) rfl (teq (show (0 : Int32) = (0 : Int32) from rfl)).2 k) ?_
      show Goes p e below (T128.setTop (mkF m 88 #[.val (.int p1), .val (.int p2), .val (.int p3), .val (.int p4), .val (.int p5), .val (.ref r104), .val (.int (2 : Int32)), .val (.ref r123), .val (.ref b124), .val (.int (0 : Int32))] [])) _
      refine Goes.via (fun t k => XS.iconst X128.here hx rfl (hb hby at_88) k) ?_
      show Goes p e below (T128.setTop (mkF m 89 #[.val (.int p1), .val (.int p2), .val (.int p3), .val (.int p4), .val (.int p5), .val (.ref r104), .val (.int (2 : Int32)), .val (.ref r123), .val (.ref b124), .val (.int (0 : Int32))] [(.int (1 : Int32))])) _
      refine Goes.via (fun t k => XS.goto X128.here hx rfl (pc0 := 89) (pc' := 93) rfl (hb hby at_89) (by decide) (by decide) k) ?_
      show Goes p e below (T128.setTop (mkF m 93 #[.val (.int p1), .val (.int p2), .val (.int p3), .val (.int p4), .val (.int p5), .val (.ref r104), .val (.int (2 : Int32)), .val (.ref r123), .val (.ref b124), .val (.int (0 : Int32))] [(.int (1 : Int32))])) _
      obtain ⟨fs, hr, hrun, hended, hRE⟩ := X128.leaveW hS (by rw [e128]; exact hk) (v := some (.int (1 : Int32))) (fun h => by rw [Bd.returns] at h; cases h)
      refine ⟨_, _, ?_, hrun, hended, _, _, rfl, ?_, hRE.1, hRE.2.1, hRE.2.2.1, hRE.2.2.2.mono (by decide) (by decide)⟩
      · exact retN X128 hx (t := .boolean) Bd.returns (by simp) (hb hby at_93) hr
      · show Q0 Z  h0 n0 _ T128.heap _ _
        rw [e128]
        exact ⟨rfl, N128⟩
    · rw [hlB]
      show Goes p e below (T104.setTop (mkF m 27 #[.val (.int p1), .val (.int p2), .val (.int p3), .val (.int p4), .val (.int p5), .val (.ref r104), .unset, .unset, .unset, .unset] [(.int (3 : Int32))])) _
      refine Goes.via (fun t k => XS.istore X104.here hx rfl (hb hby at_27) rfl (l' := #[.val (.int p1), .val (.int p2), .val (.int p3), .val (.int p4), .val (.int p5), .val (.ref r104), .val (.int (3 : Int32)), .unset, .unset, .unset]) rfl k) ?_
      show Goes p e below (T104.setTop (mkF m 29 #[.val (.int p1), .val (.int p2), .val (.int p3), .val (.int p4), .val (.int p5), .val (.ref r104), .val (.int (3 : Int32)), .unset, .unset, .unset] [])) _
      refine Goes.via (fun t k => XS.iload X104.here hx rfl (hb hby at_29) rfl k) ?_
      show Goes p e below (T104.setTop (mkF m 31 #[.val (.int p1), .val (.int p2), .val (.int p3), .val (.int p4), .val (.int p5), .val (.ref r104), .val (.int (3 : Int32)), .unset, .unset, .unset] [(.int (3 : Int32))])) _
      refine Goes.via (fun t k => XS.iloadN X104.here hx rfl (hb hby at_31) rfl k) ?_
      show Goes p e below (T104.setTop (mkF m 32 #[.val (.int p1), .val (.int p2), .val (.int p3), .val (.int p4), .val (.int p5), .val (.ref r104), .val (.int (3 : Int32)), .unset, .unset, .unset] [(.int p4), (.int (3 : Int32))])) _
      refine Goes.via (fun t k => XS.iload X104.here hx rfl (hb hby at_32) rfl k) ?_
      show Goes p e below (T104.setTop (mkF m 34 #[.val (.int p1), .val (.int p2), .val (.int p3), .val (.int p4), .val (.int p5), .val (.ref r104), .val (.int (3 : Int32)), .unset, .unset, .unset] [(.int p5), (.int p4), (.int (3 : Int32))])) _
      refine Goes.via (fun t k => XS.iloadN X104.here hx rfl (hb hby at_34) rfl k) ?_
      show Goes p e below (T104.setTop (mkF m 35 #[.val (.int p1), .val (.int p2), .val (.int p3), .val (.int p4), .val (.int p5), .val (.ref r104), .val (.int (3 : Int32)), .unset, .unset, .unset] [(.int p3), (.int p5), (.int p4), (.int (3 : Int32))])) _
      refine Goes.via (fun t k => XS.iconst X104.here hx rfl (hb hby at_35) k) ?_
      show Goes p e below (T104.setTop (mkF m 36 #[.val (.int p1), .val (.int p2), .val (.int p3), .val (.int p4), .val (.int p5), .val (.ref r104), .val (.int (3 : Int32)), .unset, .unset, .unset] [(.int (2 : Int32)), (.int p3), (.int p5), (.int p4), (.int (3 : Int32))])) _
      refine Goes.via (fun t k => XS.iushr X104.here hx rfl (hb hby at_36) rfl k) ?_
      show Goes p e below (T104.setTop (mkF m 37 #[.val (.int p1), .val (.int p2), .val (.int p3), .val (.int p4), .val (.int p5), .val (.ref r104), .val (.int (3 : Int32)), .unset, .unset, .unset] [(.int ((p3.toUInt32 >>> ((2 : Int32) &&& 31).toUInt32).toInt32)), (.int p5), (.int p4), (.int (3 : Int32))])) _
      refine Goes.via (fun t k => XS.iconst X104.here hx rfl (hb hby at_37) k) ?_
      show Goes p e below (T104.setTop (mkF m 38 #[.val (.int p1), .val (.int p2), .val (.int p3), .val (.int p4), .val (.int p5), .val (.ref r104), .val (.int (3 : Int32)), .unset, .unset, .unset] [(.int (1 : Int32)), (.int ((p3.toUInt32 >>> ((2 : Int32) &&& 31).toUInt32).toInt32)), (.int p5), (.int p4), (.int (3 : Int32))])) _
      refine Goes.via (fun t k => XS.iand X104.here hx rfl (hb hby at_38) rfl k) ?_
      show Goes p e below (T104.setTop (mkF m 39 #[.val (.int p1), .val (.int p2), .val (.int p3), .val (.int p4), .val (.int p5), .val (.ref r104), .val (.int (3 : Int32)), .unset, .unset, .unset] [(.int (((p3.toUInt32 >>> ((2 : Int32) &&& 31).toUInt32).toInt32) &&& (1 : Int32))), (.int p5), (.int p4), (.int (3 : Int32))])) _
      refine Goes.via (next := T104.setTop (mkF m 47 #[.val (.int p1), .val (.int p2), .val (.int p3), .val (.int p4), .val (.int p5), .val (.ref r104), .val (.int (3 : Int32)), .unset, .unset, .unset] [(.int (v0_47_1 p3)), (.int p5), (.int p4), (.int (3 : Int32))])) (fun t k => ?_) ?_
      · by_cases hc39_129 : (((p3.toUInt32 >>> ((2 : Int32) &&& 31).toUInt32).toInt32) &&& (1 : Int32)) = (0 : Int32)
        · refine XS.ifYes X104.here hx rfl (pc0 := 39) (pc' := 46) rfl (hb hby at_39) rfl ((if0 _ _).trans (teq hc39_129).1) (by decide) (by decide) ?_
          show Steps p.tables e below (T104.setTop (mkF m 46 #[.val (.int p1), .val (.int p2), .val (.int p3), .val (.int p4), .val (.int p5), .val (.ref r104), .val (.int (3 : Int32)), .unset, .unset, .unset] [(.int p5), (.int p4), (.int (3 : Int32))])) _
          refine XS.iconst X104.here hx rfl (hb hby at_46) ?_
          show Steps p.tables e below (T104.setTop (mkF m 47 #[.val (.int p1), .val (.int p2), .val (.int p3), .val (.int p4), .val (.int p5), .val (.ref r104), .val (.int (3 : Int32)), .unset, .unset, .unset] [(.int (0 : Int32)), (.int p5), (.int p4), (.int (3 : Int32))])) _
          simpa only [v0_47_1, if_pos hc39_129] using k
        · refine XS.ifNo X104.here hx rfl (hb hby at_39) rfl ((if0 _ _).trans (feq hc39_129).1) ?_
          show Steps p.tables e below (T104.setTop (mkF m 42 #[.val (.int p1), .val (.int p2), .val (.int p3), .val (.int p4), .val (.int p5), .val (.ref r104), .val (.int (3 : Int32)), .unset, .unset, .unset] [(.int p5), (.int p4), (.int (3 : Int32))])) _
          refine XS.iconst X104.here hx rfl (hb hby at_42) ?_
          show Steps p.tables e below (T104.setTop (mkF m 43 #[.val (.int p1), .val (.int p2), .val (.int p3), .val (.int p4), .val (.int p5), .val (.ref r104), .val (.int (3 : Int32)), .unset, .unset, .unset] [(.int (1 : Int32)), (.int p5), (.int p4), (.int (3 : Int32))])) _
          refine XS.goto X104.here hx rfl (pc0 := 43) (pc' := 47) rfl (hb hby at_43) (by decide) (by decide) ?_
          show Steps p.tables e below (T104.setTop (mkF m 47 #[.val (.int p1), .val (.int p2), .val (.int p3), .val (.int p4), .val (.int p5), .val (.ref r104), .val (.int (3 : Int32)), .unset, .unset, .unset] [(.int (1 : Int32)), (.int p5), (.int p4), (.int (3 : Int32))])) _
          simpa only [v0_47_1, if_neg hc39_129] using k
      show Goes p e below (T104.setTop (mkF m 47 #[.val (.int p1), .val (.int p2), .val (.int p3), .val (.int p4), .val (.int p5), .val (.ref r104), .val (.int (3 : Int32)), .unset, .unset, .unset] [(.int (v0_47_1 p3)), (.int p5), (.int p4), (.int (3 : Int32))])) _
      obtain ⟨Lw130, X130w, N130w⟩ := ownPack X104 N104
      obtain ⟨_, _, ⟨T131, L131, k131, n131⟩, -, X131, ⟨Lc131, hQ131, l131, y131, z131⟩, st131⟩ := Jvm.LawKit.callS X130w hx (y := (⟨"cascabel/model/selector/TypeSelectorIsUniversalPinLaw", "pick", "(IIIZ)Ljava/lang/String;"⟩ : MethodName)) hown (mvT hZ (hw _ (List.mem_of_getElem? (i := 0) rfl))) (mvT hZ (hw _ (List.mem_of_getElem? (i := 1) rfl))) (mvT hZ (hw _ (List.mem_of_getElem? (i := 2) rfl))) (mvT hZ (hw _ (List.mem_of_getElem? (i := 3) rfl))) (by decide) (backOf (W := 0) (rm1_3 l Z a0 hw [] p4 p5 (v0_47_1 p3) w0 T104.heap n0 Z104 O104 St) hZ (hw _ (List.mem_of_getElem? (i := 3) rfl)) (hw _ (List.mem_of_getElem? (i := 2) rfl)) (by decide) (by decide)) (g := (mkF m 47 #[.val (.int p1), .val (.int p2), .val (.int p3), .val (.int p4), .val (.int p5), .val (.ref r104), .val (.int (3 : Int32)), .unset, .unset, .unset] [(.int (v0_47_1 p3)), (.int p5), (.int p4), (.int (3 : Int32))])) rfl (by rw [hml]; rfl) (argsL := [(.int (3 : Int32)), (.int p4), (.int p5), (.int (v0_47_1 p3))]) (rest := []) (lenOf pd_0_0 rfl) rfl (by show 2 * 0 + _ ≤ _; exact Nat.le_of_eq rfl) (hb hby at_47) (fun _ _ => ⟨rfl, rfl, (by decide : 4 + 4 ≤ _), (by decide : 8 + 8 ≤ _)⟩)
      dsimp only [Pt.U, Pt.locs, Pt.cells, Pt.slots] at X131 l131 y131 z131 st131 hQ131
      subst l131 y131 z131
      obtain ⟨r131, rfl, N131q, Kc131⟩ := hQ131
      have K131 : Keep h0 T131.heap [] := K104.trans Kc131 (fun x hx => nomatch hx)
      have Z131 : n0 ≤ T131.heap.size := Nat.le_trans Z104 Kc131.1
      have O131 := O104.keep Kc131 (fun x hx => nomatch hx)
      have hk := Nat.le_trans hk Kc131.1
      have N131 := Fr.app N130w N131q
      refine Goes.via st131 ?_
      show Goes p e below (T131.setTop (mkF m 50 #[.val (.int p1), .val (.int p2), .val (.int p3), .val (.int p4), .val (.int p5), .val (.ref r104), .val (.int (3 : Int32)), .unset, .unset, .unset] [(.ref r131)])) _
      refine Goes.via (fun t k => XS.astore X131.here hx rfl (hb hby at_50) rfl rfl (l' := #[.val (.int p1), .val (.int p2), .val (.int p3), .val (.int p4), .val (.int p5), .val (.ref r104), .val (.int (3 : Int32)), .val (.ref r131), .unset, .unset]) rfl k) ?_
      show Goes p e below (T131.setTop (mkF m 52 #[.val (.int p1), .val (.int p2), .val (.int p3), .val (.int p4), .val (.int p5), .val (.ref r104), .val (.int (3 : Int32)), .val (.ref r131), .unset, .unset] [])) _
      obtain ⟨T132, h132, X132, e132, E132, A132, D132, -, st132⟩ := newO X131 hx hZ hown (hw _ (List.mem_of_getElem? (i := 38) rfl)) (hw _ (List.mem_of_getElem? (i := 39) rfl)) (hw _ (List.mem_of_getElem? (i := 40) rfl)) rfl (g := (mkF m 52 #[.val (.int p1), .val (.int p2), .val (.int p3), .val (.int p4), .val (.int p5), .val (.ref r104), .val (.int (3 : Int32)), .val (.ref r131), .unset, .unset] [])) rfl (hb hby at_52) (by decide) (by decide)
      obtain ⟨b132, g132⟩ : ∃ z, z = T131.heap.size := ⟨_, rfl⟩
      rw [← g132] at A132 D132 st132
      have ge_b132 : n0 ≤ b132 := Nat.le_trans Z131 (Nat.le_of_eq g132.symm)
      have sz_b132 : h0.size ≤ b132 := Nat.le_trans K131.1 (Nat.le_of_eq g132.symm)
      have K132 : Keep h0 h132 [] := K131.ext E132
      have Z132 : n0 ≤ h132.size := Nat.le_trans Z131 E132.1
      have O132 := O131.ext E132
      have hk := Nat.le_trans hk E132.1
      have F132_offset : Fld Z h132 b132 "cascabel/model/selector/TypeSelector" "offset" "I" (.int (0 : Int32)) := D132 (Or.inr (hw _ (List.mem_of_getElem? (i := 51) rfl))) (ty := .int) (by decide)
      have F132_namespace : Fld Z h132 b132 "cascabel/model/selector/TypeSelector" "namespace" "Ljava/lang/String;" .null := D132 (Or.inr (hw _ (List.mem_of_getElem? (i := 53) rfl))) (ty := (.object "java/lang/String")) (by decide)
      have F132_name : Fld Z h132 b132 "cascabel/model/selector/TypeSelector" "name" "Ljava/lang/String;" .null := D132 (Or.inr (hw _ (List.mem_of_getElem? (i := 55) rfl))) (ty := (.object "java/lang/String")) (by decide)
      refine Goes.via st132 ?_
      show Goes p e below (T132.setTop (mkF m 55 #[.val (.int p1), .val (.int p2), .val (.int p3), .val (.int p4), .val (.int p5), .val (.ref r104), .val (.int (3 : Int32)), .val (.ref r131), .unset, .unset] [(.ref b132)])) _
      refine Goes.via (fun t k => XS.dup X132.here hx rfl (hb hby at_55) rfl rfl k) ?_
      show Goes p e below (T132.setTop (mkF m 56 #[.val (.int p1), .val (.int p2), .val (.int p3), .val (.int p4), .val (.int p5), .val (.ref r104), .val (.int (3 : Int32)), .val (.ref r131), .unset, .unset] [(.ref b132), (.ref b132)])) _
      refine Goes.via (fun t k => XS.iloadN X132.here hx rfl (hb hby at_56) rfl k) ?_
      show Goes p e below (T132.setTop (mkF m 57 #[.val (.int p1), .val (.int p2), .val (.int p3), .val (.int p4), .val (.int p5), .val (.ref r104), .val (.int (3 : Int32)), .val (.ref r131), .unset, .unset] [(.int p1), (.ref b132), (.ref b132)])) _
      refine Goes.via (fun t k => XS.aload X132.here hx rfl (hb hby at_57) rfl rfl k) ?_
      show Goes p e below (T132.setTop (mkF m 59 #[.val (.int p1), .val (.int p2), .val (.int p3), .val (.int p4), .val (.int p5), .val (.ref r104), .val (.int (3 : Int32)), .val (.ref r131), .unset, .unset] [(.ref r104), (.int p1), (.ref b132), (.ref b132)])) _
      refine Goes.via (fun t k => XS.aload X132.here hx rfl (hb hby at_59) rfl rfl k) ?_
      show Goes p e below (T132.setTop (mkF m 61 #[.val (.int p1), .val (.int p2), .val (.int p3), .val (.int p4), .val (.int p5), .val (.ref r104), .val (.int (3 : Int32)), .val (.ref r131), .unset, .unset] [(.ref r131), (.ref r104), (.int p1), (.ref b132), (.ref b132)])) _
      obtain ⟨Lw133, X133w, N133w⟩ := ownPack X132 N131
      obtain ⟨_, _, ⟨T134, L134, k134, n134⟩, -, X134, ⟨Lc134, hQ134, l134, y134, z134⟩, st134⟩ := X133w.specialBack hx (y := (⟨"cascabel/model/selector/TypeSelector", "<init>", "(ILjava/lang/String;Ljava/lang/String;)V"⟩ : MethodName)) rfl hown (mvT hZ (hw _ (List.mem_of_getElem? (i := 41) rfl))) (mvT hZ (hw _ (List.mem_of_getElem? (i := 42) rfl))) (mvT hZ (hw _ (List.mem_of_getElem? (i := 43) rfl))) (by decide) (backOf (W := 1) (rm8_11 l Z a0 hw [] b132 p1 r104 r131  h132 n0 Z132 A132 F132_offset F132_namespace F132_name ge_b132) hZ (hw _ (List.mem_of_getElem? (i := 43) rfl)) (hw _ (List.mem_of_getElem? (i := 40) rfl)) (by decide) (by decide)) (g := (mkF m 61 #[.val (.int p1), .val (.int p2), .val (.int p3), .val (.int p4), .val (.int p5), .val (.ref r104), .val (.int (3 : Int32)), .val (.ref r131), .unset, .unset] [(.ref r131), (.ref r104), (.int p1), (.ref b132), (.ref b132)])) rfl (by rw [hml]; rfl) (Steps.refl _) (a := b132) (argsL := [(.int p1), (.ref r104), (.ref r131)]) (rest := [(.ref b132)]) (lenOf pd_0_1 rfl) rfl (by show 2 * 0 + _ ≤ _; exact Nat.le_of_eq rfl) (hb hby at_61) (fun _ _ => ⟨rfl, e132, (by decide : 9 + 0 ≤ _), (by decide : 19 + 0 ≤ _)⟩)
      dsimp only [Pt.U, Pt.locs, Pt.cells, Pt.slots] at X134 l134 y134 z134 st134 hQ134
      subst l134 y134 z134
      obtain ⟨rfl, N134q, Kc134, Ec134, Fn134⟩ := hQ134
      have F134_41 := A132.keep Kc134
      have K134 : Keep h0 T134.heap [] := K132.trans Kc134 (fun x hx => by cases List.mem_singleton.mp hx; exact Or.inr sz_b132)
      have Z134 : n0 ≤ T134.heap.size := Nat.le_trans Z132 Kc134.1
      have O134 := O132.keep Kc134 (fun x hx => by cases List.mem_singleton.mp hx; exact ge_b132)
      have hk := Nat.le_trans hk Kc134.1
      have N134 := Fr.app N133w N134q
      refine Goes.via (fun t k => st134.trans k) ?_
      show Goes p e below (T134.setTop (mkF m 64 #[.val (.int p1), .val (.int p2), .val (.int p3), .val (.int p4), .val (.int p5), .val (.ref r104), .val (.int (3 : Int32)), .val (.ref r131), .unset, .unset] [(.ref b132)])) _
      refine Goes.via (fun t k => XS.astore X134.here hx rfl (hb hby at_64) rfl rfl (l' := #[.val (.int p1), .val (.int p2), .val (.int p3), .val (.int p4), .val (.int p5), .val (.ref r104), .val (.int (3 : Int32)), .val (.ref r131), .val (.ref b132), .unset]) rfl k) ?_
      show Goes p e below (T134.setTop (mkF m 66 #[.val (.int p1), .val (.int p2), .val (.int p3), .val (.int p4), .val (.int p5), .val (.ref r104), .val (.int (3 : Int32)), .val (.ref r131), .val (.ref b132), .unset] [])) _
      refine Goes.via (fun t k => XS.iload X134.here hx rfl (hb hby at_66) rfl k) ?_
      show Goes p e below (T134.setTop (mkF m 68 #[.val (.int p1), .val (.int p2), .val (.int p3), .val (.int p4), .val (.int p5), .val (.ref r104), .val (.int (3 : Int32)), .val (.ref r131), .val (.ref b132), .unset] [(.int (3 : Int32))])) _
      refine Goes.via (fun t k => XS.ifYes X134.here hx rfl (pc0 := 68) (pc' := 75) rfl (hb hby at_68) rfl ((if0 _ _).trans (feq (show ¬ ((3 : Int32) = (0 : Int32)) from (by decide))).2) (by decide) (by decide) k) ?_
      show Goes p e below (T134.setTop (mkF m 75 #[.val (.int p1), .val (.int p2), .val (.int p3), .val (.int p4), .val (.int p5), .val (.ref r104), .val (.int (3 : Int32)), .val (.ref r131), .val (.ref b132), .unset] [])) _
      refine Goes.via (fun t k => XS.iconst X134.here hx rfl (hb hby at_75) k) ?_
      show Goes p e below (T134.setTop (mkF m 76 #[.val (.int p1), .val (.int p2), .val (.int p3), .val (.int p4), .val (.int p5), .val (.ref r104), .val (.int (3 : Int32)), .val (.ref r131), .val (.ref b132), .unset] [(.int (0 : Int32))])) _
      refine Goes.via (fun t k => XS.istore X134.here hx rfl (hb hby at_76) rfl (l' := #[.val (.int p1), .val (.int p2), .val (.int p3), .val (.int p4), .val (.int p5), .val (.ref r104), .val (.int (3 : Int32)), .val (.ref r131), .val (.ref b132), .val (.int (0 : Int32))]) rfl k) ?_
      show Goes p e below (T134.setTop (mkF m 78 #[.val (.int p1), .val (.int p2), .val (.int p3), .val (.int p4), .val (.int p5), .val (.ref r104), .val (.int (3 : Int32)), .val (.ref r131), .val (.ref b132), .val (.int (0 : Int32))] [])) _
      refine Goes.via (fun t k => XS.aload X134.here hx rfl (hb hby at_78) rfl rfl k) ?_
      show Goes p e below (T134.setTop (mkF m 80 #[.val (.int p1), .val (.int p2), .val (.int p3), .val (.int p4), .val (.int p5), .val (.ref r104), .val (.int (3 : Int32)), .val (.ref r131), .val (.ref b132), .val (.int (0 : Int32))] [(.ref b132)])) _
      try clear Ec134; try clear Kc134; try clear N134q; try clear st134; try clear z134; try clear y134; try clear l134; try clear hQ134; try clear Lc134; try clear n134; try clear k134; try clear L134
      try clear N133w; try clear X133w; try clear Lw133; try clear F132_name; try clear F132_namespace; try clear F132_offset; try clear O132; try clear Z132; try clear K132; try clear size; try clear g132; try clear st132
      try clear D132; try clear A132; try clear E132; try clear e132; try clear X132; try clear h132; try clear T132; try clear N131; try clear O131; try clear Z131; try clear K131; try clear Kc131
      try clear N131q; try clear st131; try clear z131; try clear y131; try clear l131; try clear hQ131; try clear Lc131; try clear X131; try clear n131; try clear k131; try clear L131; try clear T131
      try clear N130w; try clear X130w; try clear Lw130; try clear N104; try clear O104; try clear Z104; try clear K104; try clear Kc104; try clear N104q; try clear st104; try clear z104; try clear y104
      try clear l104; try clear hQ104; try clear Lc104; try clear X104; try clear n104; try clear k104; try clear L104; try clear T104
      obtain ⟨Lw135, X135w, N135w⟩ := ownPack X134 N134
      obtain ⟨cq136, kq136, q136a, q136b, q136c⟩ := isOf hZ rfl F134_41
      obtain ⟨_, _, ⟨T136, L136, k136, n136⟩, -, X136, ⟨Lc136, hQ136, l136, y136, z136⟩, st136⟩ := X135w.virtualBack hx (y := (⟨"cascabel/model/selector/TypeSelector", "isUniversal", "()Z"⟩ : MethodName)) (z := (⟨"cascabel/model/selector/TypeSelector", "isUniversal", "()Z"⟩ : MethodName)) hown (mvT hZ (hw _ (List.mem_of_getElem? (i := 56) rfl))) (mvT hZ (hw _ (List.mem_of_getElem? (i := 57) rfl))) (notFace_of_selects (args := #[]) (mvT hZ (hw _ (List.mem_of_getElem? (i := 59) rfl)))) (mvT hZ (hw _ (List.mem_of_getElem? (i := 59) rfl))) (mvT hZ (hw _ (List.mem_of_getElem? (i := 58) rfl))) (by decide) (backOf (W := 0) (rm10_1 l Z a0 hw [] b132 r131 T134.heap n0 Z134 Fn134) hZ (hw _ (List.mem_of_getElem? (i := 60) rfl)) (hw _ (List.mem_of_getElem? (i := 40) rfl)) (by decide) (by decide)) q136a q136c (g := (mkF m 80 #[.val (.int p1), .val (.int p2), .val (.int p3), .val (.int p4), .val (.int p5), .val (.ref r104), .val (.int (3 : Int32)), .val (.ref r131), .val (.ref b132), .val (.int (0 : Int32))] [(.ref b132)])) rfl (by rw [hml]; rfl) (Steps.refl _) (argsL := []) (rest := []) (lenOf pd_0_2 rfl) rfl (by show 2 * 0 + _ ≤ _; exact Nat.le_of_eq rfl) (hb hby at_80) (fun _ _ => ⟨rfl, rfl, (by decide : 9 + 0 ≤ _), (by decide : 19 + 0 ≤ _)⟩)
      dsimp only [Pt.U, Pt.locs, Pt.cells, Pt.slots] at X136 l136 y136 z136 st136 hQ136
      subst l136 y136 z136
      obtain ⟨rfl, N136q, er136⟩ := hQ136
      have e136 : T136.heap = T134.heap := er136
      have N136 := Fr.app N135w N136q
      refine Goes.via (fun t k => st136.trans k) ?_
      show Goes p e below (T136.setTop (mkF m 83 #[.val (.int p1), .val (.int p2), .val (.int p3), .val (.int p4), .val (.int p5), .val (.ref r104), .val (.int (3 : Int32)), .val (.ref r131), .val (.ref b132), .val (.int (0 : Int32))] [(.int (0 : Int32))])) _
      refine Goes.via (fun t k => XS.iload X136.here hx rfl (hb hby at_83) rfl k) ?_
      show Goes p e below (T136.setTop (mkF m 85 #[.val (.int p1), .val (.int p2), .val (.int p3), .val (.int p4), .val (.int p5), .val (.ref r104), .val (.int (3 : Int32)), .val (.ref r131), .val (.ref b132), .val (.int (0 : Int32))] [(.int (0 : Int32)), (.int (0 : Int32))])) _
      refine Goes.via (fun t k => XS.icmpNo X136.here hx rfl (hb hby at_85) rfl (teq (show (0 : Int32) = (0 : Int32) from rfl)).2 k) ?_
      show Goes p e below (T136.setTop (mkF m 88 #[.val (.int p1), .val (.int p2), .val (.int p3), .val (.int p4), .val (.int p5), .val (.ref r104), .val (.int (3 : Int32)), .val (.ref r131), .val (.ref b132), .val (.int (0 : Int32))] [])) _
      refine Goes.via (fun t k => XS.iconst X136.here hx rfl (hb hby at_88) k) ?_
      show Goes p e below (T136.setTop (mkF m 89 #[.val (.int p1), .val (.int p2), .val (.int p3), .val (.int p4), .val (.int p5), .val (.ref r104), .val (.int (3 : Int32)), .val (.ref r131), .val (.ref b132), .val (.int (0 : Int32))] [(.int (1 : Int32))])) _
      refine Goes.via (fun t k => XS.goto X136.here hx rfl (pc0 := 89) (pc' := 93) rfl (hb hby at_89) (by decide) (by decide) k) ?_
      show Goes p e below (T136.setTop (mkF m 93 #[.val (.int p1), .val (.int p2), .val (.int p3), .val (.int p4), .val (.int p5), .val (.ref r104), .val (.int (3 : Int32)), .val (.ref r131), .val (.ref b132), .val (.int (0 : Int32))] [(.int (1 : Int32))])) _
      obtain ⟨fs, hr, hrun, hended, hRE⟩ := X136.leaveW hS (by rw [e136]; exact hk) (v := some (.int (1 : Int32))) (fun h => by rw [Bd.returns] at h; cases h)
      refine ⟨_, _, ?_, hrun, hended, _, _, rfl, ?_, hRE.1, hRE.2.1, hRE.2.2.1, hRE.2.2.2.mono (by decide) (by decide)⟩
      · exact retN X136 hx (t := .boolean) Bd.returns (by simp) (hb hby at_93) hr
      · show Q0 Z  h0 n0 _ T136.heap _ _
        rw [e136]
        exact ⟨rfl, N136⟩
set_option maxRecDepth 65536 in
set_option maxHeartbeats 40000000 in
theorem comes_1 {Post : Tables → Env → Array Value → State → Outcome → State → Prop} (hpost : ∀ tb e args s v u, (limb_1_1.after args s (.returned v) u = true ∧ limb_1_2.after args s (.returned v) u = true ∧ True) → ReturnedEndW s (.returned v) u (Jvm.fieldLocs frame_1_writes args s ++ Jvm.arrayLocs frame_1_arrays args s ++ Jvm.staticLocs frame_1_statics s) 32 2176 → Post tb e args s (.returned v) u) :
    ArmFor flags0 classFile x code maxLocals ret World_1 tables_1 room_1 Calls_1 rest_1 Pre_1 Post := by
  intro l hfl _ _ p e ha hc hk s m args below hf hA hF happ hP
  obtain ⟨hcalls, hrest, hpre⟩ := hP
  obtain ⟨-, -, -, hnamed, -, -, -, hat⟩ := (Spec.applies_iff hf).mp happ
  obtain ⟨hg, hn⟩ := and_e (Cond.before_iff.mp (show (Jvm.Cond.and given_1 narrow_1).before args s = true from hpre))
  obtain ⟨g0, r0⟩ := and_e hg
  obtain ⟨w0, w1, w2, w3, w4, rfl⟩ : ∃ w0 w1 w2 w3 w4 : Value, args = #[w0, w1, w2, w3, w4] := by
    have hs : args.size = 5 := by simpa [Cond.value, given_1] using g0
    obtain ⟨L⟩ := args
    match L, hs with
    | [w0, w1, w2, w3, w4], _ => exact ⟨w0, w1, w2, w3, w4, rfl⟩
  have hw := fun d (hd : d ∈ tables_1) => atoms_spec (ws := Jvm.Cond.code x code maxLocals ret :: tables_1) hat d (List.mem_cons_of_mem _ hd)
  obtain ⟨g1, r1⟩ := and_e r0
  obtain ⟨g2, r2⟩ := and_e r1
  obtain ⟨g3, r3⟩ := and_e r2
  obtain ⟨g4, r4⟩ := and_e r3
  have g5 := r4
  obtain ⟨i0, ei0⟩ := is_v g1
  obtain rfl : w0 = (.int i0) := Option.some.inj ei0
  obtain ⟨i1, ei1⟩ := is_v g2
  obtain rfl : w1 = (.int i1) := Option.some.inj ei1
  obtain ⟨i2, ei2⟩ := is_v g3
  obtain rfl : w2 = (.int i2) := Option.some.inj ei2
  obtain ⟨i3, ei3⟩ := is_v g4
  obtain rfl : w3 = (.int i3) := Option.some.inj ei3
  obtain ⟨i4, ei4⟩ := is_v g5
  obtain rfl : w4 = (.int i4) := Option.some.inj ei4
  obtain ⟨hsets, hown0⟩ := atoms_of _ (rest_1_c_eq ▸ (show rest_1_c.before _ s = true from hrest))
  obtain ⟨w0, ew0⟩ := is_v (Cond.before_iff.mp (hsets _ (List.mem_of_getElem? (i := 1) rfl)))
  have hw0 : ¬ w0 = (0 : Int32) := gotF (Cond.eq_ints ew0 (show (Jvm.Term.int (0 : Int32)).eval _ s none [] s = some (.int 0) from rfl)) (not_v (Cond.before_iff.mp (hsets _ (List.mem_of_getElem? (i := 2) rfl))))
  have St : own_St s w0 := ⟨Sta.start ew0 (Or.inl (hsets _ (List.mem_of_getElem? (i := 0) rfl))), hw0, Sta.start (eqv_i rfl (Cond.before_iff.mp (hsets _ (List.mem_of_getElem? (i := 12) rfl)))) (Or.inl (hsets _ (List.mem_of_getElem? (i := 11) rfl))), Sta.start (eqv_i rfl (Cond.before_iff.mp (hsets _ (List.mem_of_getElem? (i := 15) rfl)))) (Or.inl (hsets _ (List.mem_of_getElem? (i := 14) rfl))), Sta.start (eqv_i rfl (Cond.before_iff.mp (hsets _ (List.mem_of_getElem? (i := 18) rfl)))) (Or.inl (hsets _ (List.mem_of_getElem? (i := 17) rfl)))⟩
  obtain ⟨n, o, h1, h2, h3, v, L, rfl, hQ, hq⟩ := rm0 l s _ hw tables_1 i0 i1 i2 i3 i4 w0 s.heap s.heap.size (Nat.le_refl _) (Old.start s) St p e ha hc hk s m _ below hf ((Spec.applies_iff_loose hf).mp happ).1 ⟨rfl, State.Warmed39.refl s, rfl, trivial⟩ trivial
  obtain ⟨hv, N⟩ : v = some (.int 1) ∧ Fr s.heap.size L := hQ
  subst hv
  refine ⟨n, _, h1, h2, h3, hpost _ _ _ _ _ _ ⟨Cond.after_iff.mpr rfl, Cond.after_iff.mpr (eq_i res_at (Term.int_eval (1)) rfl), trivial⟩ ⟨hq.1, hq.2.1, hq.2.2.1, (hq.2.2.2.sift fun y hy => Or.inr (N y hy)).mono (by decide) (by decide)⟩⟩
theorem main_1_1 : Claimed_1_1 := comes_1 fun _ _ _ _ _ _ h hF => ⟨h.1, hF⟩
theorem main_1_2 : Claimed_1_2 := comes_1 fun _ _ _ _ _ _ h hF => ⟨h.2.1, hF⟩
end Jvm.Pilot.@@N@@
namespace Jvm.Pilot.@@N@@
open Jvm Jvm.ClassFile Sem Op Lib Jvm.Free Jvm.Stand Jvm.Pilot.@@N@@.Jvm.D
/-! MADE BY PROGRAM (witnessworld.py) out of the Statement's table words and the real class files: 22 classes; the members and pool entries that the words name. The judged class is class 1, her method 1. -/
namespace start1
open Jvm.ClassFile
def u (s : String) : CpInfo := .utf8 (stringToUtf16 s)
/-- a pool by its gaps: so many unusable entries, then the entry; so many at the end -/
def gap : Nat → List CpInfo → List CpInfo
  | 0, r => r
  | n + 1, r => .unusable :: gap n r
def poolList (es : List (Nat × CpInfo)) (last : Nat) : List CpInfo := es.foldr (fun e r => gap e.1 (e.2 :: r)) (gap last [])
def pool (es : List (Nat × CpInfo)) (last : Nat) : Array CpInfo := ⟨poolList es last⟩
def fileOf (pool : Array CpInfo) (this : Nat) (attrs : Array Attribute := #[]) (ms : Array MethodInfo := #[]) (fl : Nat := 33) (sup : Nat := 0) (ifs : Array Nat := #[]) (fds : Array FieldInfo := #[]) : ClassFile where
  minorVersion := 0
  majorVersion := 65
  constantPool := pool
  accessFlags := fl
  thisClass := this
  superClass := sup
  interfaces := ifs
  fields := fds
  methods := ms
  attributes := attrs
def plain (name : String) (sup : Option ClassId) : Class where
  name := name
  kind := .ordinary
  loader := none
  accessFlags := 33
  super := sup
  interfaces := #[]
  cf := none
  fields := #[]
  methods := #[]
  instanceTypes := #[]
  staticTypes := #[]
  resolved := #[]
  callSites := []
  init := .initialized
  statics := none
  mirror := none

def pool0 : Array CpInfo := pool [(5, u "<init>"), (0, u "()V"), (1, .class_ 10), (1, u "java/lang/Object")] 113

def k0c0 : Code := { maxStack := 0, maxLocals := 1, code := object_method_1_code, exceptionTable := #[], attributes := #[] }
def k0m0 : Method := { name := "<init>", desc := "()V", sig := { parameters := [], returnType := none }, accessFlags := 1, code := some k0c0 }
/-- java/lang/Object -/
def k0 : Class := { plain "java/lang/Object" none with
  accessFlags := 33
  interfaces := #[]
  cf := some (fileOf pool0 8 #[] #[{ accessFlags := 1, nameIndex := 5, descriptorIndex := 6, attributes := #[] }] 33 0 #[] #[])
  fields := #[]
  methods := #[k0m0]
  instanceTypes := #[]
  staticTypes := #[]
  resolved := Array.replicate 124 none
  statics := none }

def pool1 : Array CpInfo := pool [(2, .class_ 4), (1, u "java/lang/Object"), (0, u "<init>"), (0, u "()V"), (0, .methodref 8 9), (0, .class_ 10), (0, .nameAndType 11 12), (0, u "cascabel/model/selector/TypeSelectorIsUniversalPinLaw"), (0, u "pick"), (0, u "(IIIZ)Ljava/lang/String;"), (0, .class_ 14), (0, u "cascabel/model/selector/TypeSelector"), (0, .methodref 13 16), (0, .nameAndType 5 17), (0, u "(ILjava/lang/String;Ljava/lang/String;)V"), (0, .methodref 13 19), (0, .nameAndType 20 21), (0, u "isUniversal"), (0, u "()Z"), (0, .string 23), (0, u ""), (0, .string 25), (0, u "*"), (0, .class_ 27), (0, u "java/lang/String"), (0, .methodref 26 29), (0, .nameAndType 5 30), (0, u "([C)V"), (0, .integer 65535), (2, u "law"), (0, u "(IIIII)Z")] 3

def k1m0 : Method := { name := "<init>", desc := "()V", sig := { parameters := [], returnType := none }, accessFlags := 1, code := none }
def k1c1 : Code := { maxStack := 5, maxLocals := 10, code := code, exceptionTable := #[], attributes := #[] }
def k1m1 : Method := { name := "law", desc := "(IIIII)Z", sig := { parameters := [.int, .int, .int, .int, .int], returnType := some .boolean }, accessFlags := 9, code := some k1c1 }
def k1c2 : Code := { maxStack := 4, maxLocals := 5, code := method_3_code, exceptionTable := #[], attributes := #[] }
def k1m2 : Method := { name := "pick", desc := "(IIIZ)Ljava/lang/String;", sig := { parameters := [.int, .int, .int, .boolean], returnType := some (.object "java/lang/String") }, accessFlags := 10, code := some k1c2 }
/-- cascabel/model/selector/TypeSelectorIsUniversalPinLaw -/
def k1 : Class := { plain "cascabel/model/selector/TypeSelectorIsUniversalPinLaw" (some 0) with
  accessFlags := 49
  interfaces := #[]
  cf := some (fileOf pool1 8 #[] #[{ accessFlags := 1, nameIndex := 5, descriptorIndex := 6, attributes := #[] }, { accessFlags := 9, nameIndex := 34, descriptorIndex := 35, attributes := #[] }, { accessFlags := 10, nameIndex := 11, descriptorIndex := 12, attributes := #[] }] 49 2 #[] #[])
  fields := #[]
  methods := #[k1m0, k1m1, k1m2]
  instanceTypes := #[]
  staticTypes := #[]
  resolved := Array.replicate 39 none
  statics := none }

def pool2 : Array CpInfo := pool [(1, .class_ 2), (0, u "java/io/Serializable"), (0, .class_ 4), (0, u "java/lang/Object")] 2

/-- java/io/Serializable -/
def k2 : Class := { plain "java/io/Serializable" (some 0) with
  accessFlags := 1537
  interfaces := #[]
  cf := some (fileOf pool2 1 #[] #[] 1537 3 #[] #[])
  fields := #[]
  methods := #[]
  instanceTypes := #[]
  staticTypes := #[]
  resolved := Array.replicate 7 none
  statics := none }

def pool3 : Array CpInfo := pool [(1, .class_ 2), (0, u "java/lang/Comparable"), (0, .class_ 4), (0, u "java/lang/Object")] 7

/-- java/lang/Comparable -/
def k3 : Class := { plain "java/lang/Comparable" (some 0) with
  accessFlags := 1537
  interfaces := #[]
  cf := some (fileOf pool3 1 #[] #[] 1537 3 #[] #[])
  fields := #[]
  methods := #[]
  instanceTypes := #[]
  staticTypes := #[]
  resolved := Array.replicate 12 none
  statics := none }

def pool4 : Array CpInfo := pool [(2, .class_ 4), (1, u "java/lang/CharSequence"), (42, .class_ 48), (0, u "java/lang/CharSequence$1CodePointIterator"), (10, .class_ 60), (0, u "java/lang/CharSequence$1CharIterator"), (5, .class_ 67), (0, u "java/lang/Object")] 63

/-- java/lang/CharSequence -/
def k4 : Class := { plain "java/lang/CharSequence" (some 0) with
  accessFlags := 1537
  interfaces := #[]
  cf := some (fileOf pool4 2 #[.nestMembers #[47, 59]] #[] 1537 66 #[] #[])
  fields := #[]
  methods := #[]
  instanceTypes := #[]
  staticTypes := #[]
  resolved := Array.replicate 131 none
  statics := none }

def pool5 : Array CpInfo := pool [(1, .class_ 2), (0, u "java/lang/constant/Constable"), (0, .class_ 4), (0, u "java/lang/Object")] 6

/-- java/lang/constant/Constable -/
def k5 : Class := { plain "java/lang/constant/Constable" (some 0) with
  accessFlags := 1537
  interfaces := #[]
  cf := some (fileOf pool5 1 #[] #[] 1537 3 #[] #[])
  fields := #[]
  methods := #[]
  instanceTypes := #[]
  staticTypes := #[]
  resolved := Array.replicate 11 none
  statics := none }

def pool6 : Array CpInfo := pool [(1, .class_ 2), (0, u "java/lang/constant/ConstantDesc"), (0, .class_ 4), (0, u "java/lang/Object")] 32

/-- java/lang/constant/ConstantDesc -/
def k6 : Class := { plain "java/lang/constant/ConstantDesc" (some 0) with
  accessFlags := 1537
  interfaces := #[]
  cf := some (fileOf pool6 1 #[] #[] 1537 3 #[] #[])
  fields := #[]
  methods := #[]
  instanceTypes := #[]
  staticTypes := #[]
  resolved := Array.replicate 37 none
  statics := none }

def pool7 : Array CpInfo := pool [(1, .methodref 2 3), (0, .class_ 4), (0, .nameAndType 5 6), (0, u "java/lang/Object"), (0, u "<init>"), (0, u "()V"), (2, .fieldref 10 11), (0, .class_ 12), (0, .nameAndType 13 14), (0, u "java/lang/String"), (0, u "value"), (0, u "[B"), (0, .fieldref 10 16), (0, .nameAndType 17 18), (0, u "coder"), (0, u "B"), (2, u "hash"), (0, u "I"), (2, u "hashIsZero"), (0, u "Z"), (0, .methodref 10 28), (0, .nameAndType 5 29), (0, u "([CIILjava/lang/Void;)V"), (8, .fieldref 10 39), (0, .nameAndType 40 26), (0, u "COMPACT_STRINGS"), (1, .class_ 44), (1, u "java/lang/StringUTF16"), (0, u "compress"), (1, .methodref 42 48), (0, .nameAndType 49 50), (0, u "coderFromArrayLen"), (0, u "([BI)B"), (126, .methodref 42 178), (0, .nameAndType 45 179), (0, u "([CII)[B"), (395, .class_ 576), (0, u "java/lang/CharSequence"), (22, u "CASE_INSENSITIVE_ORDER"), (0, u "Ljava/util/Comparator;"), (409, u "([C)V"), (90, u "serialPersistentFields"), (0, u "[Ljava/io/ObjectStreamField;"), (0, .class_ 1104), (0, u "java/lang/String$CaseInsensitiveComparator"), (1, .class_ 1107), (0, u "java/io/Serializable"), (0, .class_ 1109), (0, u "java/lang/Comparable"), (0, .class_ 1111), (0, u "java/lang/constant/Constable"), (0, .class_ 1113), (0, u "java/lang/constant/ConstantDesc"), (2, u "serialVersionUID"), (0, u "J"), (3, u "REPL"), (0, u "C"), (2, u "LATIN1"), (1, u "UTF16")] 323

def k7m0 : Method := { name := "<init>", desc := "()V", sig := { parameters := [], returnType := none }, accessFlags := 1, code := none }
def k7c1 : Code := { maxStack := 5, maxLocals := 2, code := jdk_42_method_3_code, exceptionTable := #[], attributes := #[] }
def k7m1 : Method := { name := "<init>", desc := "([C)V", sig := { parameters := [(.array .char)], returnType := none }, accessFlags := 1, code := some k7c1 }
def k7c2 : Code := { maxStack := 4, maxLocals := 6, code := jdk_42_method_149_code, exceptionTable := #[], attributes := #[] }
def k7m2 : Method := { name := "<init>", desc := "([CIILjava/lang/Void;)V", sig := { parameters := [(.array .char), .int, .int, (.object "java/lang/Void")], returnType := none }, accessFlags := 2, code := some k7c2 }
/-- java/lang/String -/
def k7 : Class := { plain "java/lang/String" (some 0) with
  accessFlags := 49
  interfaces := #[2, 3, 4, 5, 6]
  cf := some (fileOf pool7 10 #[.nestMembers #[1103]] #[{ accessFlags := 1, nameIndex := 5, descriptorIndex := 6, attributes := #[] }, { accessFlags := 1, nameIndex := 5, descriptorIndex := 1010, attributes := #[] }, { accessFlags := 2, nameIndex := 5, descriptorIndex := 29, attributes := #[] }] 49 2 #[1106, 1108, 575, 1110, 1112] #[{ accessFlags := 18, nameIndex := 13, descriptorIndex := 14, attributes := #[] }, { accessFlags := 18, nameIndex := 17, descriptorIndex := 18, attributes := #[] }, { accessFlags := 2, nameIndex := 21, descriptorIndex := 22, attributes := #[] }, { accessFlags := 2, nameIndex := 25, descriptorIndex := 26, attributes := #[] }, { accessFlags := 26, nameIndex := 1116, descriptorIndex := 1117, attributes := #[] }, { accessFlags := 24, nameIndex := 40, descriptorIndex := 26, attributes := #[] }, { accessFlags := 26, nameIndex := 1101, descriptorIndex := 1102, attributes := #[] }, { accessFlags := 26, nameIndex := 1121, descriptorIndex := 1122, attributes := #[] }, { accessFlags := 25, nameIndex := 599, descriptorIndex := 600, attributes := #[] }, { accessFlags := 24, nameIndex := 1125, descriptorIndex := 18, attributes := #[] }, { accessFlags := 24, nameIndex := 1127, descriptorIndex := 18, attributes := #[] }])
  fields := #[{ name := "value", type := (.array .byte), accessFlags := 18, slot := 0, constantValue := 0 }, { name := "coder", type := .byte, accessFlags := 18, slot := 1, constantValue := 0 }, { name := "hash", type := .int, accessFlags := 2, slot := 2, constantValue := 0 }, { name := "hashIsZero", type := .boolean, accessFlags := 2, slot := 3, constantValue := 0 }, { name := "serialVersionUID", type := .long, accessFlags := 26, slot := 0, constantValue := 0 }, { name := "COMPACT_STRINGS", type := .boolean, accessFlags := 24, slot := 1, constantValue := 0 }, { name := "serialPersistentFields", type := (.array (.object "java/io/ObjectStreamField")), accessFlags := 26, slot := 2, constantValue := 0 }, { name := "REPL", type := .char, accessFlags := 26, slot := 3, constantValue := 0 }, { name := "CASE_INSENSITIVE_ORDER", type := (.object "java/util/Comparator"), accessFlags := 25, slot := 4, constantValue := 0 }, { name := "LATIN1", type := .byte, accessFlags := 24, slot := 5, constantValue := 0 }, { name := "UTF16", type := .byte, accessFlags := 24, slot := 6, constantValue := 0 }]
  methods := #[k7m0, k7m1, k7m2]
  instanceTypes := #[(.array .byte), .byte, .int, .boolean]
  staticTypes := #[.long, .boolean, (.array (.object "java/io/ObjectStreamField")), .char, (.object "java/util/Comparator"), .byte, .byte]
  resolved := Array.replicate 1451 none
  statics := some 0 }

def pool8 : Array CpInfo := pool [(6, .class_ 8), (1, u "java/lang/Object"), (0, u "<init>"), (0, u "()V"), (0, .methodref 12 13), (0, .class_ 14), (0, .nameAndType 15 16), (0, u "java/lang/StringUTF16"), (0, u "newBytesLength"), (0, u "(I)I"), (3, .integer 1073741823), (23, .fieldref 12 45), (0, .nameAndType 46 47), (0, u "$assertionsDisabled"), (0, u "Z"), (11, .fieldref 12 60), (0, .nameAndType 61 62), (0, u "HI_BYTE_SHIFT"), (0, u "I"), (0, .fieldref 12 64), (0, .nameAndType 65 62), (0, u "LO_BYTE_SHIFT"), (5, .methodref 12 72), (0, .nameAndType 73 74), (0, u "getChar"), (0, u "([BI)C"), (32, .methodref 12 108), (0, .nameAndType 109 110), (0, u "newBytesFor"), (0, u "(I)[B"), (0, .methodref 12 112), (0, .nameAndType 113 114), (0, u "putChar"), (0, u "([BII)V"), (0, .methodref 12 116), (0, .nameAndType 117 118), (0, u "compress"), (0, u "([CI[BII)I"), (0, .methodref 12 120), (0, .nameAndType 121 122), (0, u "toBytes"), (0, u "([CII)[B"), (138, u "coderFromArrayLen"), (0, u "([BI)B"), (106, .class_ 371), (1, u "java/lang/StringUTF16$LinesSpliterator"), (58, u "MAX_LENGTH"), (196, .class_ 628), (0, u "java/lang/StringUTF16$CodePointsSpliterator"), (0, .class_ 630), (0, u "java/lang/StringUTF16$CharsSpliterator")] 4

def k8m0 : Method := { name := "<init>", desc := "()V", sig := { parameters := [], returnType := none }, accessFlags := 0, code := none }
def k8c1 : Code := { maxStack := 1, maxLocals := 1, code := jdk_52_method_2_code, exceptionTable := #[], attributes := #[] }
def k8m1 : Method := { name := "newBytesFor", desc := "(I)[B", sig := { parameters := [.int], returnType := some (.array .byte) }, accessFlags := 9, code := some k8c1 }
def k8c2 : Code := { maxStack := 4, maxLocals := 1, code := jdk_52_method_3_code, exceptionTable := #[], attributes := #[] }
def k8m2 : Method := { name := "newBytesLength", desc := "(I)I", sig := { parameters := [.int], returnType := some .int }, accessFlags := 9, code := some k8c2 }
def k8c3 : Code := { maxStack := 4, maxLocals := 3, code := jdk_52_method_4_code, exceptionTable := #[], attributes := #[] }
def k8m3 : Method := { name := "putChar", desc := "([BII)V", sig := { parameters := [(.array .byte), .int, .int], returnType := none }, accessFlags := 8, code := some k8c3 }
def k8c4 : Code := { maxStack := 3, maxLocals := 2, code := jdk_52_method_5_code, exceptionTable := #[], attributes := #[] }
def k8m4 : Method := { name := "getChar", desc := "([BI)C", sig := { parameters := [(.array .byte), .int], returnType := some .char }, accessFlags := 8, code := some k8c4 }
def k8c5 : Code := { maxStack := 4, maxLocals := 5, code := jdk_52_method_14_code, exceptionTable := #[], attributes := #[] }
def k8m5 : Method := { name := "toBytes", desc := "([CII)[B", sig := { parameters := [(.array .char), .int, .int], returnType := some (.array .byte) }, accessFlags := 9, code := some k8c5 }
def k8c6 : Code := { maxStack := 2, maxLocals := 2, code := jdk_52_method_15_code, exceptionTable := #[], attributes := #[] }
def k8m6 : Method := { name := "coderFromArrayLen", desc := "([BI)B", sig := { parameters := [(.array .byte), .int], returnType := some .byte }, accessFlags := 8, code := some k8c6 }
def k8c7 : Code := { maxStack := 5, maxLocals := 6, code := jdk_52_method_16_code, exceptionTable := #[], attributes := #[] }
def k8m7 : Method := { name := "compress", desc := "([CII)[B", sig := { parameters := [(.array .char), .int, .int], returnType := some (.array .byte) }, accessFlags := 9, code := some k8c7 }
def k8c8 : Code := { maxStack := 3, maxLocals := 7, code := jdk_52_method_21_code, exceptionTable := #[], attributes := #[] }
def k8m8 : Method := { name := "compress", desc := "([CI[BII)I", sig := { parameters := [(.array .char), .int, (.array .byte), .int, .int], returnType := some .int }, accessFlags := 9, code := some k8c8 }
/-- java/lang/StringUTF16 -/
def k8 : Class := { plain "java/lang/StringUTF16" (some 0) with
  accessFlags := 48
  interfaces := #[]
  cf := some (fileOf pool8 12 #[.nestMembers #[627, 629, 369]] #[{ accessFlags := 0, nameIndex := 9, descriptorIndex := 10, attributes := #[] }, { accessFlags := 9, nameIndex := 109, descriptorIndex := 110, attributes := #[] }, { accessFlags := 9, nameIndex := 15, descriptorIndex := 16, attributes := #[] }, { accessFlags := 8, nameIndex := 113, descriptorIndex := 114, attributes := #[] }, { accessFlags := 8, nameIndex := 73, descriptorIndex := 74, attributes := #[] }, { accessFlags := 9, nameIndex := 121, descriptorIndex := 122, attributes := #[] }, { accessFlags := 8, nameIndex := 261, descriptorIndex := 262, attributes := #[] }, { accessFlags := 9, nameIndex := 117, descriptorIndex := 122, attributes := #[] }, { accessFlags := 9, nameIndex := 117, descriptorIndex := 118, attributes := #[] }] 48 6 #[] #[{ accessFlags := 26, nameIndex := 61, descriptorIndex := 62, attributes := #[] }, { accessFlags := 26, nameIndex := 65, descriptorIndex := 62, attributes := #[] }, { accessFlags := 24, nameIndex := 430, descriptorIndex := 62, attributes := #[] }, { accessFlags := 4120, nameIndex := 46, descriptorIndex := 47, attributes := #[] }])
  fields := #[{ name := "HI_BYTE_SHIFT", type := .int, accessFlags := 26, slot := 0, constantValue := 0 }, { name := "LO_BYTE_SHIFT", type := .int, accessFlags := 26, slot := 1, constantValue := 0 }, { name := "MAX_LENGTH", type := .int, accessFlags := 24, slot := 2, constantValue := 0 }, { name := "$assertionsDisabled", type := .boolean, accessFlags := 4120, slot := 3, constantValue := 0 }]
  methods := #[k8m0, k8m1, k8m2, k8m3, k8m4, k8m5, k8m6, k8m7, k8m8]
  instanceTypes := #[]
  staticTypes := #[.int, .int, .int, .boolean]
  resolved := Array.replicate 635 none
  statics := some 1 }

def pool9 : Array CpInfo := pool [(1, .methodref 2 3), (0, .class_ 4), (0, .nameAndType 5 6), (0, u "java/lang/Object"), (0, u "<init>"), (0, u "()V"), (0, .class_ 8), (0, u "java/lang/Record")] 13

def k9c0 : Code := { maxStack := 1, maxLocals := 1, code := jdk_30_method_1_code, exceptionTable := #[], attributes := #[] }
def k9m0 : Method := { name := "<init>", desc := "()V", sig := { parameters := [], returnType := none }, accessFlags := 4, code := some k9c0 }
/-- java/lang/Record -/
def k9 : Class := { plain "java/lang/Record" (some 0) with
  accessFlags := 1057
  interfaces := #[]
  cf := some (fileOf pool9 7 #[] #[{ accessFlags := 4, nameIndex := 5, descriptorIndex := 6, attributes := #[] }] 1057 2 #[] #[])
  fields := #[]
  methods := #[k9m0]
  instanceTypes := #[]
  staticTypes := #[]
  resolved := Array.replicate 22 none
  statics := none }

def pool10 : Array CpInfo := pool [(1, .class_ 2), (0, u "cascabel/model/selector/SimpleSelector"), (0, .class_ 4), (0, u "java/lang/Object")] 23

/-- cascabel/model/selector/SimpleSelector -/
def k10 : Class := { plain "cascabel/model/selector/SimpleSelector" (some 0) with
  accessFlags := 1537
  interfaces := #[]
  cf := some (fileOf pool10 1 #[] #[] 1537 3 #[] #[])
  fields := #[]
  methods := #[]
  instanceTypes := #[]
  staticTypes := #[]
  resolved := Array.replicate 28 none
  statics := none }

def pool11 : Array CpInfo := pool [(1, .methodref 2 3), (0, .class_ 4), (0, .nameAndType 5 6), (0, u "java/lang/Record"), (0, u "<init>"), (0, u "()V"), (0, .fieldref 8 9), (0, .class_ 10), (0, .nameAndType 11 12), (0, u "cascabel/model/selector/TypeSelector"), (0, u "offset"), (0, u "I"), (0, .fieldref 8 14), (0, .nameAndType 15 16), (0, u "namespace"), (0, u "Ljava/lang/String;"), (0, .fieldref 8 18), (0, .nameAndType 19 16), (0, u "name"), (2, u "isUniversal"), (0, u "()Z"), (21, .class_ 46), (0, u "cascabel/model/selector/SimpleSelector"), (0, u "(ILjava/lang/String;Ljava/lang/String;)V")] 31

def k11c0 : Code := { maxStack := 2, maxLocals := 4, code := prog_87_method_1_code, exceptionTable := #[], attributes := #[] }
def k11m0 : Method := { name := "<init>", desc := "(ILjava/lang/String;Ljava/lang/String;)V", sig := { parameters := [.int, (.object "java/lang/String"), (.object "java/lang/String")], returnType := none }, accessFlags := 1, code := some k11c0 }
def k11c1 : Code := { maxStack := 1, maxLocals := 1, code := prog_87_method_2_code, exceptionTable := #[], attributes := #[] }
def k11m1 : Method := { name := "isUniversal", desc := "()Z", sig := { parameters := [], returnType := some .boolean }, accessFlags := 1, code := some k11c1 }
/-- cascabel/model/selector/TypeSelector -/
def k11 : Class := { plain "cascabel/model/selector/TypeSelector" (some 9) with
  accessFlags := 49
  interfaces := #[10]
  cf := some (fileOf pool11 8 #[] #[{ accessFlags := 1, nameIndex := 5, descriptorIndex := 47, attributes := #[] }, { accessFlags := 1, nameIndex := 22, descriptorIndex := 23, attributes := #[] }] 49 2 #[45] #[{ accessFlags := 18, nameIndex := 11, descriptorIndex := 12, attributes := #[] }, { accessFlags := 18, nameIndex := 15, descriptorIndex := 16, attributes := #[] }, { accessFlags := 18, nameIndex := 19, descriptorIndex := 16, attributes := #[] }])
  fields := #[{ name := "offset", type := .int, accessFlags := 18, slot := 0, constantValue := 0 }, { name := "namespace", type := (.object "java/lang/String"), accessFlags := 18, slot := 1, constantValue := 0 }, { name := "name", type := (.object "java/lang/String"), accessFlags := 18, slot := 2, constantValue := 0 }]
  methods := #[k11m0, k11m1]
  instanceTypes := #[.int, (.object "java/lang/String"), (.object "java/lang/String")]
  staticTypes := #[]
  resolved := Array.replicate 79 none
  statics := none }

def pool12 : Array CpInfo := pool [(4, .class_ 6), (1, u "java/lang/Object"), (0, u "<init>"), (0, u "()V"), (5, .class_ 16), (1, u "java/lang/StringLatin1"), (104, u "$assertionsDisabled"), (0, u "Z"), (98, .class_ 223), (1, u "java/lang/StringLatin1$LinesSpliterator"), (166, .class_ 391), (0, u "java/lang/StringLatin1$CharsSpliterator")] 3

def k12m0 : Method := { name := "<init>", desc := "()V", sig := { parameters := [], returnType := none }, accessFlags := 0, code := none }
/-- java/lang/StringLatin1 -/
def k12 : Class := { plain "java/lang/StringLatin1" (some 0) with
  accessFlags := 48
  interfaces := #[]
  cf := some (fileOf pool12 14 #[.nestMembers #[390, 221]] #[{ accessFlags := 0, nameIndex := 7, descriptorIndex := 8, attributes := #[] }] 48 4 #[] #[{ accessFlags := 4120, nameIndex := 121, descriptorIndex := 122, attributes := #[] }])
  fields := #[{ name := "$assertionsDisabled", type := .boolean, accessFlags := 4120, slot := 0, constantValue := 0 }]
  methods := #[k12m0]
  instanceTypes := #[]
  staticTypes := #[.boolean]
  resolved := Array.replicate 395 none
  statics := none }

def pool13 : Array CpInfo := pool [(2, .class_ 4), (1, u "java/lang/Object"), (0, u "<init>"), (0, u "()V"), (17, .class_ 26), (1, u "jdk/internal/util/Preconditions"), (28, .class_ 56), (0, u "jdk/internal/util/Preconditions$4"), (57, .class_ 115), (0, u "jdk/internal/util/Preconditions$1"), (7, u "SIOOBE_FORMATTER"), (0, u "Ljava/util/function/BiFunction;"), (0, .class_ 126), (0, u "jdk/internal/util/Preconditions$2"), (3, u "AIOOBE_FORMATTER"), (0, .class_ 132), (0, u "jdk/internal/util/Preconditions$3"), (3, u "IOOBE_FORMATTER")] 57

def k13m0 : Method := { name := "<init>", desc := "()V", sig := { parameters := [], returnType := none }, accessFlags := 1, code := none }
/-- jdk/internal/util/Preconditions -/
def k13 : Class := { plain "jdk/internal/util/Preconditions" (some 0) with
  accessFlags := 33
  interfaces := #[]
  cf := some (fileOf pool13 24 #[.nestMembers #[55, 131, 125, 114]] #[{ accessFlags := 1, nameIndex := 5, descriptorIndex := 6, attributes := #[] }] 33 2 #[] #[{ accessFlags := 25, nameIndex := 123, descriptorIndex := 124, attributes := #[] }, { accessFlags := 25, nameIndex := 130, descriptorIndex := 124, attributes := #[] }, { accessFlags := 25, nameIndex := 136, descriptorIndex := 124, attributes := #[] }])
  fields := #[{ name := "SIOOBE_FORMATTER", type := (.object "java/util/function/BiFunction"), accessFlags := 25, slot := 0, constantValue := 0 }, { name := "AIOOBE_FORMATTER", type := (.object "java/util/function/BiFunction"), accessFlags := 25, slot := 1, constantValue := 0 }, { name := "IOOBE_FORMATTER", type := (.object "java/util/function/BiFunction"), accessFlags := 25, slot := 2, constantValue := 0 }]
  methods := #[k13m0]
  instanceTypes := #[]
  staticTypes := #[(.object "java/util/function/BiFunction"), (.object "java/util/function/BiFunction"), (.object "java/util/function/BiFunction")]
  resolved := Array.replicate 194 none
  statics := some 2 }

def pool14 : Array CpInfo := pool [(9, u "<init>"), (6, .class_ 18), (1, u "java/lang/Object"), (0, u "()V"), (1, .class_ 23), (1, u "jdk/internal/util/ArraysSupport"), (0, u "LOG2_ARRAY_LONG_INDEX_SCALE"), (0, u "I"), (2, u "U"), (0, u "Ljdk/internal/misc/Unsafe;"), (8, u "BIG_ENDIAN"), (0, u "Z"), (8, u "LOG2_BYTE_BIT_SIZE"), (4, u "LOG2_ARRAY_INT_INDEX_SCALE"), (54, u "JLA"), (0, u "Ljdk/internal/access/JavaLangAccess;"), (11, u "LOG2_ARRAY_BOOLEAN_INDEX_SCALE"), (9, u "LOG2_ARRAY_BYTE_INDEX_SCALE"), (5, u "LOG2_ARRAY_CHAR_INDEX_SCALE"), (5, u "LOG2_ARRAY_SHORT_INDEX_SCALE"), (18, u "LOG2_ARRAY_FLOAT_INDEX_SCALE"), (24, u "LOG2_ARRAY_DOUBLE_INDEX_SCALE"), (89, u "T_BOOLEAN"), (2, u "T_CHAR"), (1, u "T_FLOAT"), (1, u "T_DOUBLE"), (1, u "T_BYTE"), (1, u "T_SHORT"), (1, u "T_INT"), (1, u "T_LONG"), (1, u "SOFT_MAX_ARRAY_LENGTH")] 83

def k14m0 : Method := { name := "<init>", desc := "()V", sig := { parameters := [], returnType := none }, accessFlags := 2, code := none }
/-- jdk/internal/util/ArraysSupport -/
def k14 : Class := { plain "jdk/internal/util/ArraysSupport" (some 0) with
  accessFlags := 33
  interfaces := #[]
  cf := some (fileOf pool14 21 #[] #[{ accessFlags := 2, nameIndex := 9, descriptorIndex := 19, attributes := #[] }] 33 16 #[] #[{ accessFlags := 24, nameIndex := 28, descriptorIndex := 29, attributes := #[] }, { accessFlags := 26, nameIndex := 38, descriptorIndex := 39, attributes := #[] }, { accessFlags := 25, nameIndex := 121, descriptorIndex := 25, attributes := #[] }, { accessFlags := 25, nameIndex := 131, descriptorIndex := 25, attributes := #[] }, { accessFlags := 25, nameIndex := 137, descriptorIndex := 25, attributes := #[] }, { accessFlags := 25, nameIndex := 143, descriptorIndex := 25, attributes := #[] }, { accessFlags := 25, nameIndex := 53, descriptorIndex := 25, attributes := #[] }, { accessFlags := 25, nameIndex := 24, descriptorIndex := 25, attributes := #[] }, { accessFlags := 25, nameIndex := 162, descriptorIndex := 25, attributes := #[] }, { accessFlags := 25, nameIndex := 187, descriptorIndex := 25, attributes := #[] }, { accessFlags := 26, nameIndex := 48, descriptorIndex := 25, attributes := #[] }, { accessFlags := 25, nameIndex := 277, descriptorIndex := 25, attributes := #[] }, { accessFlags := 25, nameIndex := 280, descriptorIndex := 25, attributes := #[] }, { accessFlags := 25, nameIndex := 282, descriptorIndex := 25, attributes := #[] }, { accessFlags := 25, nameIndex := 284, descriptorIndex := 25, attributes := #[] }, { accessFlags := 25, nameIndex := 286, descriptorIndex := 25, attributes := #[] }, { accessFlags := 25, nameIndex := 288, descriptorIndex := 25, attributes := #[] }, { accessFlags := 25, nameIndex := 290, descriptorIndex := 25, attributes := #[] }, { accessFlags := 25, nameIndex := 292, descriptorIndex := 25, attributes := #[] }, { accessFlags := 26, nameIndex := 108, descriptorIndex := 109, attributes := #[] }, { accessFlags := 25, nameIndex := 294, descriptorIndex := 25, attributes := #[] }])
  fields := #[{ name := "U", type := (.object "jdk/internal/misc/Unsafe"), accessFlags := 24, slot := 0, constantValue := 0 }, { name := "BIG_ENDIAN", type := .boolean, accessFlags := 26, slot := 1, constantValue := 0 }, { name := "LOG2_ARRAY_BOOLEAN_INDEX_SCALE", type := .int, accessFlags := 25, slot := 2, constantValue := 0 }, { name := "LOG2_ARRAY_BYTE_INDEX_SCALE", type := .int, accessFlags := 25, slot := 3, constantValue := 0 }, { name := "LOG2_ARRAY_CHAR_INDEX_SCALE", type := .int, accessFlags := 25, slot := 4, constantValue := 0 }, { name := "LOG2_ARRAY_SHORT_INDEX_SCALE", type := .int, accessFlags := 25, slot := 5, constantValue := 0 }, { name := "LOG2_ARRAY_INT_INDEX_SCALE", type := .int, accessFlags := 25, slot := 6, constantValue := 0 }, { name := "LOG2_ARRAY_LONG_INDEX_SCALE", type := .int, accessFlags := 25, slot := 7, constantValue := 0 }, { name := "LOG2_ARRAY_FLOAT_INDEX_SCALE", type := .int, accessFlags := 25, slot := 8, constantValue := 0 }, { name := "LOG2_ARRAY_DOUBLE_INDEX_SCALE", type := .int, accessFlags := 25, slot := 9, constantValue := 0 }, { name := "LOG2_BYTE_BIT_SIZE", type := .int, accessFlags := 26, slot := 10, constantValue := 0 }, { name := "T_BOOLEAN", type := .int, accessFlags := 25, slot := 11, constantValue := 0 }, { name := "T_CHAR", type := .int, accessFlags := 25, slot := 12, constantValue := 0 }, { name := "T_FLOAT", type := .int, accessFlags := 25, slot := 13, constantValue := 0 }, { name := "T_DOUBLE", type := .int, accessFlags := 25, slot := 14, constantValue := 0 }, { name := "T_BYTE", type := .int, accessFlags := 25, slot := 15, constantValue := 0 }, { name := "T_SHORT", type := .int, accessFlags := 25, slot := 16, constantValue := 0 }, { name := "T_INT", type := .int, accessFlags := 25, slot := 17, constantValue := 0 }, { name := "T_LONG", type := .int, accessFlags := 25, slot := 18, constantValue := 0 }, { name := "JLA", type := (.object "jdk/internal/access/JavaLangAccess"), accessFlags := 26, slot := 19, constantValue := 0 }, { name := "SOFT_MAX_ARRAY_LENGTH", type := .int, accessFlags := 25, slot := 20, constantValue := 0 }]
  methods := #[k14m0]
  instanceTypes := #[]
  staticTypes := #[(.object "jdk/internal/misc/Unsafe"), .boolean, .int, .int, .int, .int, .int, .int, .int, .int, .int, .int, .int, .int, .int, .int, .int, .int, .int, (.object "jdk/internal/access/JavaLangAccess"), .int]
  resolved := Array.replicate 378 none
  statics := none }

def pool15 : Array CpInfo := pool [(1, u "java/lang/Cloneable"), (0, .class_ 1), (0, u "java/lang/Object"), (0, .class_ 3)] 3

/-- java/lang/Cloneable -/
def k15 : Class := { plain "java/lang/Cloneable" (some 0) with
  accessFlags := 1537
  interfaces := #[]
  cf := some (fileOf pool15 2 #[] #[] 1537 4 #[] #[])
  fields := #[]
  methods := #[]
  instanceTypes := #[]
  staticTypes := #[]
  resolved := Array.replicate 8 none
  statics := none }

/-- the primitive byte -/
def k16 : Class := { plain "byte" none with kind := .primitive 'B', accessFlags := 0x411 }
/-- [B -/
def k17 : Class := { plain "[B" (some 0) with kind := .array 16 .byte, interfaces := #[15, 2], accessFlags := 1041 }

/-- the primitive char -/
def k18 : Class := { plain "char" none with kind := .primitive 'C', accessFlags := 0x411 }
/-- [C -/
def k19 : Class := { plain "[C" (some 0) with kind := .array 18 .char, interfaces := #[15, 2], accessFlags := 1041 }

/-- the primitive int -/
def k20 : Class := { plain "int" none with kind := .primitive 'I', accessFlags := 0x411 }
/-- [I -/
def k21 : Class := { plain "[I" (some 0) with kind := .array 20 .int, interfaces := #[15, 2], accessFlags := 1041 }

def heap : Heap := #[{ cls := 7, slots := #[.long 0, .int 1, .null, .int 0, .null, .int 0, .int 0], vm := .statics 7 },
  { cls := 8, slots := #[.int 0, .int 8, .int 0, .int 1], vm := .statics 8 },
  { cls := 13, slots := #[.null, .null, .null], vm := .statics 13 }]
def classes : Array Class := #[k0, k1, k2, k3, k4, k5, k6, k7, k8, k9, k10, k11, k12, k13, k14, k15, k16, k17, k18, k19, k20, k21]
def interned : List (Array UInt16 × Addr) := []
def slotsUsed : Nat := 14
def theMethod : MethodId := ⟨1, 1⟩
def args0 : Array Value := #[.int 5, .int 7, .int 3, .int 9, .int 2]
def aboutOver (below : List Frame) : State where
  vm := { classes := classes, interned := interned.toArray }
  heap := heap
  slotsUsed := slotsUsed
  threads := #[{ frames := .invoking theMethod args0 :: below }]
def below0 : List Frame := [.native { method := ⟨0, 0⟩, args := #[] }]
def about1 : State := aboutOver below0
def p0 : Program := .bare "" "" ""
def e0 : Env := launch0.env 0 0 0
theorem w_frames : about1.frames = Frame.invoking theMethod args0 :: below0 := rfl
set_option maxRecDepth 65536 in
theorem w_args : argsFit about1.vm theMethod args0 = true := by decide +kernel
set_option maxRecDepth 65536 in
theorem w_heap : heapFits about1 = true := by decide +kernel
set_option maxRecDepth 65536 in
theorem w_runnable : about1.curStatus? = some .runnable := by decide +kernel
set_option maxRecDepth 65536 in
theorem w_alone : about1.alone = true := by decide +kernel
set_option maxRecDepth 65536 in
theorem w_named : about1.methodNamed? x = some theMethod := by decide +kernel
set_option maxRecDepth 65536 in
theorem w_hears : about1.hears theMethod below0 = true := by decide +kernel
set_option maxRecDepth 65536 in
theorem w_ripe : about1.ripe theMethod args0 below0 = true := by decide +kernel
theorem w_running : about1.status = .running := rfl
set_option maxRecDepth 65536 in
theorem w_room : about1.hasRoom e0.platform room_1 = true :=
  launch0.hasRoom_least _ room_1 (by decide +kernel) (by decide +kernel) (by decide +kernel) (by decide +kernel) (by decide +kernel) (by decide +kernel)
theorem allAtoms_all (ts : List Jvm.Cond) (a : Array Jvm.Value) (st : Jvm.State) : (allAtoms ts).before a st = ts.all (fun c => c.before a st) := by
  induction ts with
  | nil => rfl
  | cons c t ih =>
    show (Jvm.Cond.and c (allAtoms t)).before a st = _
    rw [Jvm.Cond.before_and, ih, List.all_cons]
def words1 : List Jvm.Cond := Jvm.Cond.code x code maxLocals ret :: tables_1
/-- a 'code' word, met by the world's own term for the bytes: nothing is compared byte by byte -/
theorem code_word {y : MethodName} {bytes : ByteArray} {mx : Nat} {rt : Option FieldType} {a : Array Value} {s : State} {m : MethodId} {meth : Method} {c : Code} (h1 : s.methodNamed? y = some m) (h2 : s.vm.method? m = some meth) (h3 : meth.code = some c) (h4 : c.code = bytes)
    (h5 : (c.maxLocals == mx && c.exceptionTable.isEmpty && decide (c.maxStack ≤ mostOperands) && decide (meth.sig.returnType = rt) && !meth.locks && decide (parseMethodDescriptor y.desc = some meth.sig)) = true) : (Jvm.Cond.code y bytes mx rt).before a s = true := by
  simp only [Bool.and_eq_true, beq_iff_eq, Bool.not_eq_true', decide_eq_true_eq] at h5
  obtain ⟨⟨⟨⟨⟨g1, g2⟩, g3⟩, g4⟩, g5⟩, g6⟩ := h5
  simp [Cond.before, Cond.holds, Cond.value, h1, h2, h3, h4, g1, g2, g3, g4, g5, g6]
def isCode : Jvm.Cond → Bool
  | .code _ _ _ _ => true
  | _ => false
theorem all_split {L : List Jvm.Cond} {P : Jvm.Cond → Bool} (h1 : L.all (fun c => isCode c || P c) = true) (h2 : ∀ c ∈ L.filter isCode, P c = true) : L.all P = true := by
  refine List.all_eq_true.mpr fun c hc => ?_
  have h := List.all_eq_true.mp h1 c hc
  rcases Bool.eq_false_or_eq_true (isCode c) with hi | hi
  · exact h2 c (List.mem_filter.mpr ⟨hc, hi⟩)
  · simpa [hi] using h
set_option maxRecDepth 65536 in
theorem w_c0 : (Jvm.Cond.code x code maxLocals ret).before args0 about1 = true := code_word (m := ⟨1, 1⟩) (meth := k1m1) (c := k1c1) (by decide +kernel) rfl rfl rfl (by decide +kernel)
set_option maxRecDepth 65536 in
theorem w_c1 : (Jvm.Cond.code ({ cls := "cascabel/model/selector/TypeSelectorIsUniversalPinLaw", name := "pick", desc := "(IIIZ)Ljava/lang/String;" } : Jvm.MethodName) method_3_code (5 : Nat) (Option.some (Jvm.ClassFile.FieldType.object "java/lang/String"))).before args0 about1 = true := code_word (m := ⟨1, 2⟩) (meth := k1m2) (c := k1c2) (by decide +kernel) rfl rfl rfl (by decide +kernel)
set_option maxRecDepth 65536 in
theorem w_c2 : (Jvm.Cond.code ({ cls := "java/lang/String", name := "<init>", desc := "([C)V" } : Jvm.MethodName) jdk_42_method_3_code (2 : Nat) (Option.none : Option Jvm.ClassFile.FieldType)).before args0 about1 = true := code_word (m := ⟨7, 1⟩) (meth := k7m1) (c := k7c1) (by decide +kernel) rfl rfl rfl (by decide +kernel)
set_option maxRecDepth 65536 in
theorem w_c3 : (Jvm.Cond.code ({ cls := "java/lang/String", name := "<init>", desc := "([CIILjava/lang/Void;)V" } : Jvm.MethodName) jdk_42_method_149_code (6 : Nat) (Option.none : Option Jvm.ClassFile.FieldType)).before args0 about1 = true := code_word (m := ⟨7, 2⟩) (meth := k7m2) (c := k7c2) (by decide +kernel) rfl rfl rfl (by decide +kernel)
set_option maxRecDepth 65536 in
theorem w_c4 : (Jvm.Cond.code ({ cls := "java/lang/Object", name := "<init>", desc := "()V" } : Jvm.MethodName) object_method_1_code (1 : Nat) (Option.none : Option Jvm.ClassFile.FieldType)).before args0 about1 = true := code_word (m := ⟨0, 0⟩) (meth := k0m0) (c := k0c0) (by decide +kernel) rfl rfl rfl (by decide +kernel)
set_option maxRecDepth 65536 in
theorem w_c5 : (Jvm.Cond.code ({ cls := "java/lang/StringUTF16", name := "compress", desc := "([CII)[B" } : Jvm.MethodName) jdk_52_method_16_code (6 : Nat) (Option.some (Jvm.ClassFile.FieldType.array Jvm.ClassFile.FieldType.byte))).before args0 about1 = true := code_word (m := ⟨8, 7⟩) (meth := k8m7) (c := k8c7) (by decide +kernel) rfl rfl rfl (by decide +kernel)
set_option maxRecDepth 65536 in
theorem w_c6 : (Jvm.Cond.code ({ cls := "java/lang/StringUTF16", name := "compress", desc := "([CI[BII)I" } : Jvm.MethodName) jdk_52_method_21_code (7 : Nat) (Option.some Jvm.ClassFile.FieldType.int)).before args0 about1 = true := code_word (m := ⟨8, 8⟩) (meth := k8m8) (c := k8c8) (by decide +kernel) rfl rfl rfl (by decide +kernel)
set_option maxRecDepth 65536 in
theorem w_c7 : (Jvm.Cond.code ({ cls := "java/lang/StringUTF16", name := "coderFromArrayLen", desc := "([BI)B" } : Jvm.MethodName) jdk_52_method_15_code (2 : Nat) (Option.some Jvm.ClassFile.FieldType.byte)).before args0 about1 = true := code_word (m := ⟨8, 6⟩) (meth := k8m6) (c := k8c6) (by decide +kernel) rfl rfl rfl (by decide +kernel)
set_option maxRecDepth 65536 in
theorem w_c8 : (Jvm.Cond.code ({ cls := "cascabel/model/selector/TypeSelector", name := "<init>", desc := "(ILjava/lang/String;Ljava/lang/String;)V" } : Jvm.MethodName) prog_87_method_1_code (4 : Nat) (Option.none : Option Jvm.ClassFile.FieldType)).before args0 about1 = true := code_word (m := ⟨11, 0⟩) (meth := k11m0) (c := k11c0) (by decide +kernel) rfl rfl rfl (by decide +kernel)
set_option maxRecDepth 65536 in
theorem w_c9 : (Jvm.Cond.code ({ cls := "java/lang/Record", name := "<init>", desc := "()V" } : Jvm.MethodName) jdk_30_method_1_code (1 : Nat) (Option.none : Option Jvm.ClassFile.FieldType)).before args0 about1 = true := code_word (m := ⟨9, 0⟩) (meth := k9m0) (c := k9c0) (by decide +kernel) rfl rfl rfl (by decide +kernel)
set_option maxRecDepth 65536 in
theorem w_c10 : (Jvm.Cond.code ({ cls := "cascabel/model/selector/TypeSelector", name := "isUniversal", desc := "()Z" } : Jvm.MethodName) prog_87_method_2_code (1 : Nat) (Option.some Jvm.ClassFile.FieldType.boolean)).before args0 about1 = true := code_word (m := ⟨11, 1⟩) (meth := k11m1) (c := k11c1) (by decide +kernel) rfl rfl rfl (by decide +kernel)
set_option maxRecDepth 65536 in
theorem w_c11 : (Jvm.Cond.code ({ cls := "java/lang/StringUTF16", name := "toBytes", desc := "([CII)[B" } : Jvm.MethodName) jdk_52_method_14_code (5 : Nat) (Option.some (Jvm.ClassFile.FieldType.array Jvm.ClassFile.FieldType.byte))).before args0 about1 = true := code_word (m := ⟨8, 5⟩) (meth := k8m5) (c := k8c5) (by decide +kernel) rfl rfl rfl (by decide +kernel)
set_option maxRecDepth 65536 in
theorem w_c12 : (Jvm.Cond.code ({ cls := "java/lang/StringUTF16", name := "newBytesFor", desc := "(I)[B" } : Jvm.MethodName) jdk_52_method_2_code (1 : Nat) (Option.some (Jvm.ClassFile.FieldType.array Jvm.ClassFile.FieldType.byte))).before args0 about1 = true := code_word (m := ⟨8, 1⟩) (meth := k8m1) (c := k8c1) (by decide +kernel) rfl rfl rfl (by decide +kernel)
set_option maxRecDepth 65536 in
theorem w_c13 : (Jvm.Cond.code ({ cls := "java/lang/StringUTF16", name := "newBytesLength", desc := "(I)I" } : Jvm.MethodName) jdk_52_method_3_code (1 : Nat) (Option.some Jvm.ClassFile.FieldType.int)).before args0 about1 = true := code_word (m := ⟨8, 2⟩) (meth := k8m2) (c := k8c2) (by decide +kernel) rfl rfl rfl (by decide +kernel)
set_option maxRecDepth 65536 in
theorem w_c14 : (Jvm.Cond.code ({ cls := "java/lang/StringUTF16", name := "putChar", desc := "([BII)V" } : Jvm.MethodName) jdk_52_method_4_code (3 : Nat) (Option.none : Option Jvm.ClassFile.FieldType)).before args0 about1 = true := code_word (m := ⟨8, 3⟩) (meth := k8m3) (c := k8c3) (by decide +kernel) rfl rfl rfl (by decide +kernel)
set_option maxRecDepth 65536 in
theorem w_c15 : (Jvm.Cond.code ({ cls := "java/lang/StringUTF16", name := "getChar", desc := "([BI)C" } : Jvm.MethodName) jdk_52_method_5_code (2 : Nat) (Option.some Jvm.ClassFile.FieldType.char)).before args0 about1 = true := code_word (m := ⟨8, 4⟩) (meth := k8m4) (c := k8c4) (by decide +kernel) rfl rfl rfl (by decide +kernel)
def codes1 : List Jvm.Cond := [Jvm.Cond.code x code maxLocals ret, Jvm.Cond.code ({ cls := "cascabel/model/selector/TypeSelectorIsUniversalPinLaw", name := "pick", desc := "(IIIZ)Ljava/lang/String;" } : Jvm.MethodName) method_3_code (5 : Nat) (Option.some (Jvm.ClassFile.FieldType.object "java/lang/String")), Jvm.Cond.code ({ cls := "java/lang/String", name := "<init>", desc := "([C)V" } : Jvm.MethodName) jdk_42_method_3_code (2 : Nat) (Option.none : Option Jvm.ClassFile.FieldType), Jvm.Cond.code ({ cls := "java/lang/String", name := "<init>", desc := "([CIILjava/lang/Void;)V" } : Jvm.MethodName) jdk_42_method_149_code (6 : Nat) (Option.none : Option Jvm.ClassFile.FieldType), Jvm.Cond.code ({ cls := "java/lang/Object", name := "<init>", desc := "()V" } : Jvm.MethodName) object_method_1_code (1 : Nat) (Option.none : Option Jvm.ClassFile.FieldType), Jvm.Cond.code ({ cls := "java/lang/StringUTF16", name := "compress", desc := "([CII)[B" } : Jvm.MethodName) jdk_52_method_16_code (6 : Nat) (Option.some (Jvm.ClassFile.FieldType.array Jvm.ClassFile.FieldType.byte)), Jvm.Cond.code ({ cls := "java/lang/StringUTF16", name := "compress", desc := "([CI[BII)I" } : Jvm.MethodName) jdk_52_method_21_code (7 : Nat) (Option.some Jvm.ClassFile.FieldType.int), Jvm.Cond.code ({ cls := "java/lang/StringUTF16", name := "coderFromArrayLen", desc := "([BI)B" } : Jvm.MethodName) jdk_52_method_15_code (2 : Nat) (Option.some Jvm.ClassFile.FieldType.byte), Jvm.Cond.code ({ cls := "cascabel/model/selector/TypeSelector", name := "<init>", desc := "(ILjava/lang/String;Ljava/lang/String;)V" } : Jvm.MethodName) prog_87_method_1_code (4 : Nat) (Option.none : Option Jvm.ClassFile.FieldType), Jvm.Cond.code ({ cls := "java/lang/Record", name := "<init>", desc := "()V" } : Jvm.MethodName) jdk_30_method_1_code (1 : Nat) (Option.none : Option Jvm.ClassFile.FieldType), Jvm.Cond.code ({ cls := "cascabel/model/selector/TypeSelector", name := "isUniversal", desc := "()Z" } : Jvm.MethodName) prog_87_method_2_code (1 : Nat) (Option.some Jvm.ClassFile.FieldType.boolean), Jvm.Cond.code ({ cls := "java/lang/StringUTF16", name := "toBytes", desc := "([CII)[B" } : Jvm.MethodName) jdk_52_method_14_code (5 : Nat) (Option.some (Jvm.ClassFile.FieldType.array Jvm.ClassFile.FieldType.byte)), Jvm.Cond.code ({ cls := "java/lang/StringUTF16", name := "newBytesFor", desc := "(I)[B" } : Jvm.MethodName) jdk_52_method_2_code (1 : Nat) (Option.some (Jvm.ClassFile.FieldType.array Jvm.ClassFile.FieldType.byte)), Jvm.Cond.code ({ cls := "java/lang/StringUTF16", name := "newBytesLength", desc := "(I)I" } : Jvm.MethodName) jdk_52_method_3_code (1 : Nat) (Option.some Jvm.ClassFile.FieldType.int), Jvm.Cond.code ({ cls := "java/lang/StringUTF16", name := "putChar", desc := "([BII)V" } : Jvm.MethodName) jdk_52_method_4_code (3 : Nat) (Option.none : Option Jvm.ClassFile.FieldType), Jvm.Cond.code ({ cls := "java/lang/StringUTF16", name := "getChar", desc := "([BI)C" } : Jvm.MethodName) jdk_52_method_5_code (2 : Nat) (Option.some Jvm.ClassFile.FieldType.char)]
set_option maxRecDepth 65536 in
theorem codes_eq : words1.filter isCode = codes1 := rfl
theorem w_codes : ∀ c ∈ words1.filter isCode, c.before args0 about1 = true := by
  rw [codes_eq]
  intro c hc
  simp only [codes1, List.mem_cons, List.not_mem_nil, or_false] at hc
  rcases hc with rfl | rfl | rfl | rfl | rfl | rfl | rfl | rfl | rfl | rfl | rfl | rfl | rfl | rfl | rfl | rfl
  · exact w_c0
  · exact w_c1
  · exact w_c2
  · exact w_c3
  · exact w_c4
  · exact w_c5
  · exact w_c6
  · exact w_c7
  · exact w_c8
  · exact w_c9
  · exact w_c10
  · exact w_c11
  · exact w_c12
  · exact w_c13
  · exact w_c14
  · exact w_c15
set_option maxRecDepth 65536 in
theorem w_t1 : (words1.take 24).all (fun c => isCode c || c.before args0 about1) = true := by decide +kernel
set_option maxRecDepth 65536 in
theorem w_t2 : ((words1.drop 24).take 24).all (fun c => isCode c || c.before args0 about1) = true := by decide +kernel
set_option maxRecDepth 65536 in
theorem w_t3 : (((words1.drop 24).drop 24).take 24).all (fun c => isCode c || c.before args0 about1) = true := by decide +kernel
set_option maxRecDepth 65536 in
theorem w_t4 : (((words1.drop 24).drop 24).drop 24).all (fun c => isCode c || c.before args0 about1) = true := by decide +kernel
theorem w_tables : (allAtoms (Jvm.Cond.code x code maxLocals ret :: tables_1)).before args0 about1 = true := by
  rw [allAtoms_all]
  show words1.all (fun c => c.before args0 about1) = true
  refine all_split ?_ w_codes
  rw [← List.take_append_drop 24 words1, List.all_append, w_t1, ← List.take_append_drop 24 (words1.drop 24), List.all_append, w_t2, ← List.take_append_drop 24 ((words1.drop 24).drop 24), List.all_append, w_t3, w_t4]
  rfl
set_option maxRecDepth 65536 in
theorem w_rest : rest_1_c.before args0 about1 = true := by decide +kernel
set_option maxRecDepth 65536 in
theorem w_case : (Jvm.Cond.and given_1 narrow_1).before args0 about1 = true := by decide +kernel
theorem w_applies : (headSpec (Jvm.Cond.code x code maxLocals ret :: tables_1) room_1).applies x e0.platform about1 = true :=
  (Spec.applies_iff w_frames).mpr ⟨w_running, w_runnable, w_alone, w_named, w_hears, w_ripe, w_room, w_tables⟩
theorem atStart : AtStart classFile x code maxLocals ret World_1 tables_1 room_1 Calls_1 rest_1 Pre_1 launch0 p0 e0 about1 theMethod args0 below0 :=
  ⟨lists_1, trivial, launch0.admits_env _ _ _, launch0.least_env, fairChoices_fair.cas, fairChoices_fair.clock, w_frames, w_args, w_heap, w_applies, trivial, w_rest, w_case⟩
end start1
theorem witness_1 : WitnessClaimed_1 := ⟨start1.p0, start1.e0, start1.about1, start1.theMethod, start1.args0, start1.below0, start1.atStart⟩
end Jvm.Pilot.@@N@@
