import JvmDerived
import JvmDerived.Pilot.@@N@@Statement
import JvmDerived.Pilot.@@N@@Code
set_option linter.unusedVariables false
set_option linter.unusedSimpArgs false
namespace Jvm.RoadKit
open Sem ClassFile Op Lib Jvm.Stand Jvm.Free Jvm.LawKit
section New
variable {p : Program} {l : Launch} {e : Env} {R : Room} {s : State} {m : MethodId} {args : Array Value} {below : List Frame} {meth : Method} {c : Code} {T : State} {locs : List Loc} {cells slots : Nat}
theorem retI (X : Stand p l e R s m args below meth c T locs cells slots) (hx : p.tables.exec = Jvm.exec) {pc : Nat} {Ls : Array Slot} {z : Int32} {rest : List Value} (hret : meth.sig.returnType = some .int) (hd : decode c.code pc = .ok (.ireturn, 1)) {fs : List Frame}
    (hl : ∀ (f : JFrame) (acts : List Action), f.method = m → f.locked = none → f.entered = [] → (doReturn e (T.setTop f) acts (some (.int z))).1 = T.setFrames fs) : Steps p.tables e below (T.setTop (mkF m pc Ls (.int z :: rest))) (T.setFrames fs) := by
  have hm' : T.vm.method? m = some meth := X.method'
  have hn : narrow .int (.int z) = .int z := rfl
  show Steps p.tables e below (T.setTop { method := m, pc := pc, locals := Ls, stack := _ :: rest, locked := none }) _
  jvm_step X.here [X.here.top, hx, hd, hm', hret, hn]
  first | (intro acts; rw [hl _ acts rfl rfl rfl]) | rw [hl _ _ rfl rfl rfl]
  exact Steps.refl _
end New
end Jvm.RoadKit
namespace Jvm.Pilot.@@N@@
open Jvm Jvm.ClassFile Sem Op Lib Jvm.Free Jvm.Stand Jvm.LawKit Jvm.RoadKit Bundle Jvm.Pilot.@@N@@.Jvm.D
theorem own_d1_0 : decode jdk_29_method_65_code 0 = .ok (.iload_n 0, 1) := by decide +kernel
theorem own_d1_1 : decode jdk_29_method_65_code 1 = .ok (.iload_n 1, 1) := by decide +kernel
theorem own_d1_2 : decode jdk_29_method_65_code 2 = .ok (.if_icmp .lt 7, 3) := by decide +kernel
theorem own_d1_9 : decode jdk_29_method_65_code 9 = .ok (.iload_n 1, 1) := by decide +kernel
theorem own_d1_10 : decode jdk_29_method_65_code 10 = .ok (.ireturn, 1) := by decide +kernel
theorem own_d1_5 : decode jdk_29_method_65_code 5 = .ok (.iload_n 0, 1) := by decide +kernel
theorem own_d1_6 : decode jdk_29_method_65_code 6 = .ok (.goto 4, 3) := by decide +kernel
def own_f_rm1 (p1 : Int32) (p2 : Int32) : Int32 := if p1 < p2 then p2 else p1
theorem own_ef_rm1 (m : MethodId) (p1 : Int32) (p2 : Int32) : entryFrame m #[(.int p1), (.int p2)] 2 = mkF m 0 #[.val (.int p1), .val (.int p2)] [] := by first | (simp [entryFrame, mkF, argsToLocals, Value.category]; done) | rfl
def Q1 (Z : State) (p1 : Int32) (p2 : Int32) (h0 : Heap) (n0 : Nat) (v : Option Value) (h : Heap) (L : List Loc) : Prop := v = some (.int (own_f_rm1 p1 p2)) ∧ Fr n0 L ∧ h = h0
set_option maxRecDepth 65536 in
set_option maxHeartbeats 40000000 in
theorem rm1 (l : Launch) (Z : State) (a0 : Array Value) (hw : ∀ d ∈ tables_1, d.before a0 Z = true) (ws : List Jvm.Cond) (p1 : Int32) (p2 : Int32) (h0 : Heap) (n0 : Nat) (Z0 : n0 ≤ h0.size) :
    MetFree l (⟨"java/lang/Math", "max", "(II)I"⟩ : MethodName) (head1 (Jvm.Cond.code (⟨"java/lang/Math", "max", "(II)I"⟩ : MethodName) jdk_29_method_65_code 2 (some .int) :: ws) ({ frames := 0, cells := 0, slots := 0, locals := 0 } : Room)) (fun a U => a = #[(.int p1), (.int p2)] ∧ Z.Warmed39 U.vm ∧ U.heap = h0) (fun _ _ _ _ _ => True) (fun _ U o U' => ∃ v L, o = .returned v ∧ Q1 Z p1 p2 h0 n0 v U'.heap L ∧ FrameEnd U o U' L ({ frames := 0, cells := 0, slots := 0, locals := 0 } : Room).cells ({ frames := 0, cells := 0, slots := 0, locals := 0 } : Room).slots) := by
  refine MetFree.of_bodySF (Jvm.Free.JP.mathPlain rfl (by decide +kernel)) hisR ?_
  intro p e s m args below meth c s₁ Bd hml0 hP hK
  obtain ⟨rfl, hZ, hh⟩ := hP
  have hx := Bd.exec
  have hby := Bd.bytes
  have hml : c.maxLocals = 2 := hml0
  have hown : s.vm.findClass "java/lang/Math" = some m.cls := findClass_of_methodNamed Bd.named
  have hnm := (name_of_methodNamed Bd.named Bd.method).1
  have X0 : Stand p l e ({ frames := 0, cells := 0, slots := 0, locals := 0 } : Room) s m #[(.int p1), (.int p2)] below meth c s₁ [] 0 0 := Stand.of_body Bd
  have e0 : s₁.heap = h0 := by rw [← hh, Bd.state]; rfl
  have N0 := Fr.nil n0
  have K0 : Keep h0 h0 [] := Keep.refl h0 _
  have pre0 : ∀ t, Steps p.tables e below (s₁.setTop (mkF m 0 #[.val (.int p1), .val (.int p2)] [])) t → Steps p.tables e below (s₁.setTop (entryFrame m #[(.int p1), (.int p2)] 2)) t := fun t k => castTop (own_ef_rm1 m p1 p2) k
  have pre2 : ∀ t, Steps p.tables e below (s₁.setTop (mkF m 2 #[.val (.int p1), .val (.int p2)] [(.int p2), (.int p1)])) t → Steps p.tables e below (s₁.setTop (entryFrame m #[(.int p1), (.int p2)] 2)) t := fun t k => by
    refine pre0 _ ?_
    show Steps p.tables e below (s₁.setTop (mkF m 0 #[.val (.int p1), .val (.int p2)] [])) _
    refine XS.iloadN X0.here hx rfl (hb hby own_d1_0) rfl ?_
    show Steps p.tables e below (s₁.setTop (mkF m 1 #[.val (.int p1), .val (.int p2)] [(.int p1)])) _
    refine XS.iloadN X0.here hx rfl (hb hby own_d1_1) rfl ?_
    exact k
  by_cases hc2 : p1 < p2
  · obtain ⟨fs, hr, hrun, hended, hW, hsame⟩ := X0.leave (v := some (.int p2)) (fun h => by rw [Bd.returns] at h; cases h)
    refine ⟨_, _, pre2 _ ?_, hrun, hended, _, _, rfl, ?_, ⟨_, rfl⟩, hW, hsame.mono (by decide) (by decide)⟩
    · show Steps p.tables e below (s₁.setTop (mkF m 2 #[.val (.int p1), .val (.int p2)] [(.int p2), (.int p1)])) _
      refine XS.icmpYes X0.here hx rfl (pc0 := 2) (pc' := 9) rfl (hb hby own_d1_2) rfl (tlt hc2).1 (by decide) (by decide) ?_
      show Steps p.tables e below (s₁.setTop (mkF m 9 #[.val (.int p1), .val (.int p2)] [])) _
      refine XS.iloadN X0.here hx rfl (hb hby own_d1_9) rfl ?_
      show Steps p.tables e below (s₁.setTop (mkF m 10 #[.val (.int p1), .val (.int p2)] [(.int p2)])) _
      exact retI X0 hx Bd.returns (hb hby own_d1_10) hr
    · show Q1 Z p1 p2 h0 n0 _ s₁.heap _
      rw [e0]
      exact ⟨(congrArg (fun z => some (Value.int z)) (by unfold own_f_rm1; rw [if_pos hc2] : p2 = (own_f_rm1 p1 p2))), N0, rfl⟩
  · obtain ⟨fs, hr, hrun, hended, hW, hsame⟩ := X0.leave (v := some (.int p1)) (fun h => by rw [Bd.returns] at h; cases h)
    refine ⟨_, _, pre2 _ ?_, hrun, hended, _, _, rfl, ?_, ⟨_, rfl⟩, hW, hsame.mono (by decide) (by decide)⟩
    · show Steps p.tables e below (s₁.setTop (mkF m 2 #[.val (.int p1), .val (.int p2)] [(.int p2), (.int p1)])) _
      refine XS.icmpNo X0.here hx rfl (hb hby own_d1_2) rfl (flt hc2).1 ?_
      show Steps p.tables e below (s₁.setTop (mkF m 5 #[.val (.int p1), .val (.int p2)] [])) _
      refine XS.iloadN X0.here hx rfl (hb hby own_d1_5) rfl ?_
      show Steps p.tables e below (s₁.setTop (mkF m 6 #[.val (.int p1), .val (.int p2)] [(.int p1)])) _
      refine XS.goto X0.here hx rfl (pc0 := 6) (pc' := 10) rfl (hb hby own_d1_6) (by decide) (by decide) ?_
      show Steps p.tables e below (s₁.setTop (mkF m 10 #[.val (.int p1), .val (.int p2)] [(.int p1)])) _
      exact retI X0 hx Bd.returns (hb hby own_d1_10) hr
    · show Q1 Z p1 p2 h0 n0 _ s₁.heap _
      rw [e0]
      exact ⟨(congrArg (fun z => some (Value.int z)) (by unfold own_f_rm1; rw [if_neg hc2] : p1 = (own_f_rm1 p1 p2))), N0, rfl⟩
theorem own_d2_0 : decode prog_32_method_1_code 0 = .ok (.aload_n 0, 1) := by decide +kernel
theorem own_d2_1 : decode prog_32_method_1_code 1 = .ok (.invokespecial 1, 3) := by decide +kernel
theorem own_d2_4 : decode prog_32_method_1_code 4 = .ok (.iload_n 1, 1) := by decide +kernel
theorem own_d2_5 : decode prog_32_method_1_code 5 = .ok (.iconst 1, 1) := by decide +kernel
theorem own_d2_6 : decode prog_32_method_1_code 6 = .ok (.if_icmp .lt 24, 3) := by decide +kernel
theorem own_d2_9 : decode prog_32_method_1_code 9 = .ok (.iload_n 2, 1) := by decide +kernel
theorem own_d2_10 : decode prog_32_method_1_code 10 = .ok (.iconst 1, 1) := by decide +kernel
theorem own_d2_11 : decode prog_32_method_1_code 11 = .ok (.if_icmp .lt 19, 3) := by decide +kernel
theorem own_d2_14 : decode prog_32_method_1_code 14 = .ok (.iload_n 3, 1) := by decide +kernel
theorem own_d2_15 : decode prog_32_method_1_code 15 = .ok (.iconst 1, 1) := by decide +kernel
theorem own_d2_16 : decode prog_32_method_1_code 16 = .ok (.if_icmp .lt 14, 3) := by decide +kernel
theorem own_d2_19 : decode prog_32_method_1_code 19 = .ok (.iload 4, 2) := by decide +kernel
theorem own_d2_21 : decode prog_32_method_1_code 21 = .ok (.iconst 1, 1) := by decide +kernel
theorem own_d2_22 : decode prog_32_method_1_code 22 = .ok (.if_icmp .lt 8, 3) := by decide +kernel
theorem own_d2_25 : decode prog_32_method_1_code 25 = .ok (.iload 5, 2) := by decide +kernel
theorem own_d2_27 : decode prog_32_method_1_code 27 = .ok (.ifCond .ge 57, 3) := by decide +kernel
theorem own_d2_84 : decode prog_32_method_1_code 84 = .ok (.aload_n 0, 1) := by decide +kernel
theorem own_d2_85 : decode prog_32_method_1_code 85 = .ok (.iload_n 1, 1) := by decide +kernel
theorem own_d2_86 : decode prog_32_method_1_code 86 = .ok (.putfield 26, 3) := by decide +kernel
theorem own_d2_89 : decode prog_32_method_1_code 89 = .ok (.aload_n 0, 1) := by decide +kernel
theorem own_d2_90 : decode prog_32_method_1_code 90 = .ok (.iload_n 2, 1) := by decide +kernel
theorem own_d2_91 : decode prog_32_method_1_code 91 = .ok (.putfield 32, 3) := by decide +kernel
theorem own_d2_94 : decode prog_32_method_1_code 94 = .ok (.aload_n 0, 1) := by decide +kernel
theorem own_d2_95 : decode prog_32_method_1_code 95 = .ok (.iload_n 3, 1) := by decide +kernel
theorem own_d2_96 : decode prog_32_method_1_code 96 = .ok (.putfield 35, 3) := by decide +kernel
theorem own_d2_99 : decode prog_32_method_1_code 99 = .ok (.aload_n 0, 1) := by decide +kernel
theorem own_d2_100 : decode prog_32_method_1_code 100 = .ok (.iload 4, 2) := by decide +kernel
theorem own_d2_102 : decode prog_32_method_1_code 102 = .ok (.putfield 38, 3) := by decide +kernel
theorem own_d2_105 : decode prog_32_method_1_code 105 = .ok (.aload_n 0, 1) := by decide +kernel
theorem own_d2_106 : decode prog_32_method_1_code 106 = .ok (.iload 5, 2) := by decide +kernel
theorem own_d2_108 : decode prog_32_method_1_code 108 = .ok (.putfield 41, 3) := by decide +kernel
theorem own_d2_111 : decode prog_32_method_1_code 111 = .ok (.return_, 1) := by decide +kernel
theorem own_pn0 : plainName "com/example/dalby/dalby/mesh/Mesh" = true := by first | (simp [plainName, overriddenIn]; done) | decide +kernel
theorem own_ef_rm2 (m : MethodId) (a1 : Addr) (p2 : Int32) (p3 : Int32) (p4 : Int32) (p5 : Int32) (p6 : Int32) : entryFrame m #[(.ref a1), (.int p2), (.int p3), (.int p4), (.int p5), (.int p6)] 6 = mkF m 0 #[.val (.ref a1), .val (.int p2), .val (.int p3), .val (.int p4), .val (.int p5), .val (.int p6)] [] := by first | (simp [entryFrame, mkF, argsToLocals, Value.category]; done) | rfl
def Q2 (Z : State) (a1 : Addr) (p2 : Int32) (p3 : Int32) (p4 : Int32) (p5 : Int32) (p6 : Int32) (h0 : Heap) (n0 : Nat) (v : Option Value) (h : Heap) (L : List Loc) : Prop := v = none ∧ Fr n0 L ∧ Keep h0 h [a1] ∧ Exa Z h a1 "com/example/dalby/dalby/mesh/Mesh" ∧ Fld Z h a1 "com/example/dalby/dalby/mesh/Mesh" "width" "I" (.int p2) ∧ Fld Z h a1 "com/example/dalby/dalby/mesh/Mesh" "height" "I" (.int p3) ∧ Fld Z h a1 "com/example/dalby/dalby/mesh/Mesh" "pins" "I" (.int p6)
set_option maxRecDepth 65536 in
set_option maxHeartbeats 40000000 in
theorem rm2 (l : Launch) (Z : State) (a0 : Array Value) (hw : ∀ d ∈ tables_1, d.before a0 Z = true) (ws : List Jvm.Cond) (a1 : Addr) (p2 : Int32) (p3 : Int32) (p4 : Int32) (p5 : Int32) (p6 : Int32) (h0 : Heap) (n0 : Nat) (Z0 : n0 ≤ h0.size) (E_a1 : Exa Z h0 a1 "com/example/dalby/dalby/mesh/Mesh") (F_a1_width : Fld Z h0 a1 "com/example/dalby/dalby/mesh/Mesh" "width" "I" (.int (0 : Int32))) (F_a1_height : Fld Z h0 a1 "com/example/dalby/dalby/mesh/Mesh" "height" "I" (.int (0 : Int32))) (F_a1_luts : Fld Z h0 a1 "com/example/dalby/dalby/mesh/Mesh" "luts" "I" (.int (0 : Int32))) (F_a1_lutInputs : Fld Z h0 a1 "com/example/dalby/dalby/mesh/Mesh" "lutInputs" "I" (.int (0 : Int32))) (F_a1_pins : Fld Z h0 a1 "com/example/dalby/dalby/mesh/Mesh" "pins" "I" (.int (0 : Int32))) (gg_a1 : n0 ≤ a1) (hlp2 : ¬ (p2 < (1 : Int32))) (hlp3 : ¬ (p3 < (1 : Int32))) (hlp4 : ¬ (p4 < (1 : Int32))) (hlp5 : ¬ (p5 < (1 : Int32))) (hlp6 : ¬ (p6 < (0 : Int32))) :
    MetFree l (⟨"com/example/dalby/dalby/mesh/Mesh", "<init>", "(IIIII)V"⟩ : MethodName) (head1 (Jvm.Cond.code (⟨"com/example/dalby/dalby/mesh/Mesh", "<init>", "(IIIII)V"⟩ : MethodName) prog_32_method_1_code 6 none :: ws) ({ frames := 1, cells := 0, slots := 0, locals := 12 } : Room)) (fun a U => a = #[(.ref a1), (.int p2), (.int p3), (.int p4), (.int p5), (.int p6)] ∧ Z.Warmed39 U.vm ∧ U.heap = h0) (fun _ _ _ _ _ => True) (fun _ U o U' => ∃ v L, o = .returned v ∧ Q2 Z a1 p2 p3 p4 p5 p6 h0 n0 v U'.heap L ∧ FrameEnd U o U' L ({ frames := 1, cells := 0, slots := 0, locals := 12 } : Room).cells ({ frames := 1, cells := 0, slots := 0, locals := 12 } : Room).slots) := by
  refine MetFree.of_bodySF (plainFor_of_name own_pn0) hisR ?_
  intro p e s m args below meth c s₁ Bd hml0 hP hK
  obtain ⟨rfl, hZ, hh⟩ := hP
  have hx := Bd.exec
  have hby := Bd.bytes
  have hml : c.maxLocals = 6 := hml0
  have hown : s.vm.findClass "com/example/dalby/dalby/mesh/Mesh" = some m.cls := findClass_of_methodNamed Bd.named
  have hnm := (name_of_methodNamed Bd.named Bd.method).1
  have X0 : Stand p l e ({ frames := 1, cells := 0, slots := 0, locals := 12 } : Room) s m #[(.ref a1), (.int p2), (.int p3), (.int p4), (.int p5), (.int p6)] below meth c s₁ [] 0 0 := Stand.of_body Bd
  have e0 : s₁.heap = h0 := by rw [← hh, Bd.state]; rfl
  have N0 := Fr.nil n0
  have K0 : Keep h0 h0 [a1] := Keep.refl h0 _
  have pre0 : ∀ t, Steps p.tables e below (s₁.setTop (mkF m 0 #[.val (.ref a1), .val (.int p2), .val (.int p3), .val (.int p4), .val (.int p5), .val (.int p6)] [])) t → Steps p.tables e below (s₁.setTop (entryFrame m #[(.ref a1), (.int p2), (.int p3), (.int p4), (.int p5), (.int p6)] 6)) t := fun t k => castTop (own_ef_rm2 m a1 p2 p3 p4 p5 p6) k
  obtain ⟨T3, X3, e3, st3⟩ := initO X0 hx hZ hown (hw _ (List.mem_of_getElem? (i := 11) rfl)) (hw _ (List.mem_of_getElem? (i := 12) rfl)) (hw _ (List.mem_of_getElem? (i := 13) rfl)) e0 (g := (mkF m 1 #[.val (.ref a1), .val (.int p2), .val (.int p3), .val (.int p4), .val (.int p5), .val (.int p6)] [(.ref a1)])) rfl (by rw [hml]; rfl) rfl (hb hby own_d2_1) (by decide) (W := 0) (by show 2 * 0 + _ ≤ _; exact Nat.le_of_eq rfl) (by decide)
  have hc6_4 : ¬ (p2 < (1 : Int32)) := hlp2
  have hc11_5 : ¬ (p3 < (1 : Int32)) := hlp3
  have hc16_6 : ¬ (p4 < (1 : Int32)) := hlp4
  have hc22_7 : ¬ (p5 < (1 : Int32)) := hlp5
  have hc27_8 : ¬ (p6 < (0 : Int32)) := hlp6
  obtain ⟨T9, h9, X9, e9, W9, st9⟩ := putF X3 hx hZ hown (host := "") (Or.inl (hw _ (List.mem_of_getElem? (i := 14) rfl))) Via.refl e3 F_a1_width E_a1 (Or.inr ⟨(hw _ (List.mem_of_getElem? (i := 15) rfl)), rfl, hnm⟩) (hw _ (List.mem_of_getElem? (i := 6) rfl)) (ty := .int) (by decide) rfl rfl (g := (mkF m 86 #[.val (.ref a1), .val (.int p2), .val (.int p3), .val (.int p4), .val (.int p5), .val (.int p6)] [(.int p2), (.ref a1)])) rfl rfl (hb hby own_d2_86)
  have Fw9 := F_a1_width.same W9
  have K9 := K0.wr W9 (Or.inl (List.mem_of_getElem? (i := 0) rfl))
  have N9 := Fr.snoc X9 N0 gg_a1
  have Q10 := (E_a1.wr W9)
  have Q11 := (F_a1_height.other W9 (Or.inr (slot_ne (Or.inr (hw _ (List.mem_of_getElem? (i := 17) rfl))) (Or.inr (hw _ (List.mem_of_getElem? (i := 15) rfl))) (by decide) (t := .int) (t' := .int) (by decide) (by decide))))
  obtain ⟨T12, h12, X12, e12, W12, st12⟩ := putF X9 hx hZ hown (host := "") (Or.inl (hw _ (List.mem_of_getElem? (i := 16) rfl))) Via.refl e9 Q11 Q10 (Or.inr ⟨(hw _ (List.mem_of_getElem? (i := 17) rfl)), rfl, hnm⟩) (hw _ (List.mem_of_getElem? (i := 6) rfl)) (ty := .int) (by decide) rfl rfl (g := (mkF m 91 #[.val (.ref a1), .val (.int p2), .val (.int p3), .val (.int p4), .val (.int p5), .val (.int p6)] [(.int p3), (.ref a1)])) rfl rfl (hb hby own_d2_91)
  have Fw12 := Q11.same W12
  have K12 := K9.wr W12 (Or.inl (List.mem_of_getElem? (i := 0) rfl))
  have N12 := Fr.snoc X12 N9 gg_a1
  have Q13 := (Q10.wr W12)
  have Q14 := ((F_a1_luts.other W9 (Or.inr (slot_ne (Or.inr (hw _ (List.mem_of_getElem? (i := 19) rfl))) (Or.inr (hw _ (List.mem_of_getElem? (i := 15) rfl))) (by decide) (t := .int) (t' := .int) (by decide) (by decide)))).other W12 (Or.inr (slot_ne (Or.inr (hw _ (List.mem_of_getElem? (i := 19) rfl))) (Or.inr (hw _ (List.mem_of_getElem? (i := 17) rfl))) (by decide) (t := .int) (t' := .int) (by decide) (by decide))))
  obtain ⟨T15, h15, X15, e15, W15, st15⟩ := putF X12 hx hZ hown (host := "") (Or.inl (hw _ (List.mem_of_getElem? (i := 18) rfl))) Via.refl e12 Q14 Q13 (Or.inr ⟨(hw _ (List.mem_of_getElem? (i := 19) rfl)), rfl, hnm⟩) (hw _ (List.mem_of_getElem? (i := 6) rfl)) (ty := .int) (by decide) rfl rfl (g := (mkF m 96 #[.val (.ref a1), .val (.int p2), .val (.int p3), .val (.int p4), .val (.int p5), .val (.int p6)] [(.int p4), (.ref a1)])) rfl rfl (hb hby own_d2_96)
  have Fw15 := Q14.same W15
  have K15 := K12.wr W15 (Or.inl (List.mem_of_getElem? (i := 0) rfl))
  have N15 := Fr.snoc X15 N12 gg_a1
  have Q16 := (Q13.wr W15)
  have Q17 := (((F_a1_lutInputs.other W9 (Or.inr (slot_ne (Or.inr (hw _ (List.mem_of_getElem? (i := 21) rfl))) (Or.inr (hw _ (List.mem_of_getElem? (i := 15) rfl))) (by decide) (t := .int) (t' := .int) (by decide) (by decide)))).other W12 (Or.inr (slot_ne (Or.inr (hw _ (List.mem_of_getElem? (i := 21) rfl))) (Or.inr (hw _ (List.mem_of_getElem? (i := 17) rfl))) (by decide) (t := .int) (t' := .int) (by decide) (by decide)))).other W15 (Or.inr (slot_ne (Or.inr (hw _ (List.mem_of_getElem? (i := 21) rfl))) (Or.inr (hw _ (List.mem_of_getElem? (i := 19) rfl))) (by decide) (t := .int) (t' := .int) (by decide) (by decide))))
  obtain ⟨T18, h18, X18, e18, W18, st18⟩ := putF X15 hx hZ hown (host := "") (Or.inl (hw _ (List.mem_of_getElem? (i := 20) rfl))) Via.refl e15 Q17 Q16 (Or.inr ⟨(hw _ (List.mem_of_getElem? (i := 21) rfl)), rfl, hnm⟩) (hw _ (List.mem_of_getElem? (i := 6) rfl)) (ty := .int) (by decide) rfl rfl (g := (mkF m 102 #[.val (.ref a1), .val (.int p2), .val (.int p3), .val (.int p4), .val (.int p5), .val (.int p6)] [(.int p5), (.ref a1)])) rfl rfl (hb hby own_d2_102)
  have Fw18 := Q17.same W18
  have K18 := K15.wr W18 (Or.inl (List.mem_of_getElem? (i := 0) rfl))
  have N18 := Fr.snoc X18 N15 gg_a1
  have Q19 := (Q16.wr W18)
  have Q20 := ((((F_a1_pins.other W9 (Or.inr (slot_ne (Or.inr (hw _ (List.mem_of_getElem? (i := 23) rfl))) (Or.inr (hw _ (List.mem_of_getElem? (i := 15) rfl))) (by decide) (t := .int) (t' := .int) (by decide) (by decide)))).other W12 (Or.inr (slot_ne (Or.inr (hw _ (List.mem_of_getElem? (i := 23) rfl))) (Or.inr (hw _ (List.mem_of_getElem? (i := 17) rfl))) (by decide) (t := .int) (t' := .int) (by decide) (by decide)))).other W15 (Or.inr (slot_ne (Or.inr (hw _ (List.mem_of_getElem? (i := 23) rfl))) (Or.inr (hw _ (List.mem_of_getElem? (i := 19) rfl))) (by decide) (t := .int) (t' := .int) (by decide) (by decide)))).other W18 (Or.inr (slot_ne (Or.inr (hw _ (List.mem_of_getElem? (i := 23) rfl))) (Or.inr (hw _ (List.mem_of_getElem? (i := 21) rfl))) (by decide) (t := .int) (t' := .int) (by decide) (by decide))))
  obtain ⟨T21, h21, X21, e21, W21, st21⟩ := putF X18 hx hZ hown (host := "") (Or.inl (hw _ (List.mem_of_getElem? (i := 22) rfl))) Via.refl e18 Q20 Q19 (Or.inr ⟨(hw _ (List.mem_of_getElem? (i := 23) rfl)), rfl, hnm⟩) (hw _ (List.mem_of_getElem? (i := 6) rfl)) (ty := .int) (by decide) rfl rfl (g := (mkF m 108 #[.val (.ref a1), .val (.int p2), .val (.int p3), .val (.int p4), .val (.int p5), .val (.int p6)] [(.int p6), (.ref a1)])) rfl rfl (hb hby own_d2_108)
  have Fw21 := Q20.same W21
  have K21 := K18.wr W21 (Or.inl (List.mem_of_getElem? (i := 0) rfl))
  have N21 := Fr.snoc X21 N18 gg_a1
  have Q22 := (Q19.wr W21)
  have Q23 := ((((Fw9.other W12 (Or.inr (slot_ne (Or.inr (hw _ (List.mem_of_getElem? (i := 15) rfl))) (Or.inr (hw _ (List.mem_of_getElem? (i := 17) rfl))) (by decide) (t := .int) (t' := .int) (by decide) (by decide)))).other W15 (Or.inr (slot_ne (Or.inr (hw _ (List.mem_of_getElem? (i := 15) rfl))) (Or.inr (hw _ (List.mem_of_getElem? (i := 19) rfl))) (by decide) (t := .int) (t' := .int) (by decide) (by decide)))).other W18 (Or.inr (slot_ne (Or.inr (hw _ (List.mem_of_getElem? (i := 15) rfl))) (Or.inr (hw _ (List.mem_of_getElem? (i := 21) rfl))) (by decide) (t := .int) (t' := .int) (by decide) (by decide)))).other W21 (Or.inr (slot_ne (Or.inr (hw _ (List.mem_of_getElem? (i := 15) rfl))) (Or.inr (hw _ (List.mem_of_getElem? (i := 23) rfl))) (by decide) (t := .int) (t' := .int) (by decide) (by decide))))
  have Q24 := (((Fw12.other W15 (Or.inr (slot_ne (Or.inr (hw _ (List.mem_of_getElem? (i := 17) rfl))) (Or.inr (hw _ (List.mem_of_getElem? (i := 19) rfl))) (by decide) (t := .int) (t' := .int) (by decide) (by decide)))).other W18 (Or.inr (slot_ne (Or.inr (hw _ (List.mem_of_getElem? (i := 17) rfl))) (Or.inr (hw _ (List.mem_of_getElem? (i := 21) rfl))) (by decide) (t := .int) (t' := .int) (by decide) (by decide)))).other W21 (Or.inr (slot_ne (Or.inr (hw _ (List.mem_of_getElem? (i := 17) rfl))) (Or.inr (hw _ (List.mem_of_getElem? (i := 23) rfl))) (by decide) (t := .int) (t' := .int) (by decide) (by decide))))
  obtain ⟨fs, hr, hrun, hended, hW, hsame⟩ := X21.leave (v := none) (fun _ => rfl)
  refine ⟨_, _, pre0 _ ?_, hrun, hended, _, _, rfl, ?_, ⟨_, rfl⟩, hW, hsame.mono (by decide) (by decide)⟩
  · show Steps p.tables e below (s₁.setTop (mkF m 0 #[.val (.ref a1), .val (.int p2), .val (.int p3), .val (.int p4), .val (.int p5), .val (.int p6)] [])) _
    refine XS.aloadN X0.here hx rfl (hb hby own_d2_0) rfl rfl ?_
    show Steps p.tables e below (s₁.setTop (mkF m 1 #[.val (.ref a1), .val (.int p2), .val (.int p3), .val (.int p4), .val (.int p5), .val (.int p6)] [(.ref a1)])) _
    refine st3 _ ?_
    show Steps p.tables e below (T3.setTop (mkF m 4 #[.val (.ref a1), .val (.int p2), .val (.int p3), .val (.int p4), .val (.int p5), .val (.int p6)] [])) _
    refine XS.iloadN X3.here hx rfl (hb hby own_d2_4) rfl ?_
    show Steps p.tables e below (T3.setTop (mkF m 5 #[.val (.ref a1), .val (.int p2), .val (.int p3), .val (.int p4), .val (.int p5), .val (.int p6)] [(.int p2)])) _
    refine XS.iconst X3.here hx rfl (hb hby own_d2_5) ?_
    show Steps p.tables e below (T3.setTop (mkF m 6 #[.val (.ref a1), .val (.int p2), .val (.int p3), .val (.int p4), .val (.int p5), .val (.int p6)] [(.int (1 : Int32)), (.int p2)])) _
    refine XS.icmpNo X3.here hx rfl (hb hby own_d2_6) rfl (flt hc6_4).1 ?_
    show Steps p.tables e below (T3.setTop (mkF m 9 #[.val (.ref a1), .val (.int p2), .val (.int p3), .val (.int p4), .val (.int p5), .val (.int p6)] [])) _
    refine XS.iloadN X3.here hx rfl (hb hby own_d2_9) rfl ?_
    show Steps p.tables e below (T3.setTop (mkF m 10 #[.val (.ref a1), .val (.int p2), .val (.int p3), .val (.int p4), .val (.int p5), .val (.int p6)] [(.int p3)])) _
    refine XS.iconst X3.here hx rfl (hb hby own_d2_10) ?_
    show Steps p.tables e below (T3.setTop (mkF m 11 #[.val (.ref a1), .val (.int p2), .val (.int p3), .val (.int p4), .val (.int p5), .val (.int p6)] [(.int (1 : Int32)), (.int p3)])) _
    refine XS.icmpNo X3.here hx rfl (hb hby own_d2_11) rfl (flt hc11_5).1 ?_
    show Steps p.tables e below (T3.setTop (mkF m 14 #[.val (.ref a1), .val (.int p2), .val (.int p3), .val (.int p4), .val (.int p5), .val (.int p6)] [])) _
    refine XS.iloadN X3.here hx rfl (hb hby own_d2_14) rfl ?_
    show Steps p.tables e below (T3.setTop (mkF m 15 #[.val (.ref a1), .val (.int p2), .val (.int p3), .val (.int p4), .val (.int p5), .val (.int p6)] [(.int p4)])) _
    refine XS.iconst X3.here hx rfl (hb hby own_d2_15) ?_
    show Steps p.tables e below (T3.setTop (mkF m 16 #[.val (.ref a1), .val (.int p2), .val (.int p3), .val (.int p4), .val (.int p5), .val (.int p6)] [(.int (1 : Int32)), (.int p4)])) _
    refine XS.icmpNo X3.here hx rfl (hb hby own_d2_16) rfl (flt hc16_6).1 ?_
    show Steps p.tables e below (T3.setTop (mkF m 19 #[.val (.ref a1), .val (.int p2), .val (.int p3), .val (.int p4), .val (.int p5), .val (.int p6)] [])) _
    refine XS.iload X3.here hx rfl (hb hby own_d2_19) rfl ?_
    show Steps p.tables e below (T3.setTop (mkF m 21 #[.val (.ref a1), .val (.int p2), .val (.int p3), .val (.int p4), .val (.int p5), .val (.int p6)] [(.int p5)])) _
    refine XS.iconst X3.here hx rfl (hb hby own_d2_21) ?_
    show Steps p.tables e below (T3.setTop (mkF m 22 #[.val (.ref a1), .val (.int p2), .val (.int p3), .val (.int p4), .val (.int p5), .val (.int p6)] [(.int (1 : Int32)), (.int p5)])) _
    refine XS.icmpNo X3.here hx rfl (hb hby own_d2_22) rfl (flt hc22_7).1 ?_
    show Steps p.tables e below (T3.setTop (mkF m 25 #[.val (.ref a1), .val (.int p2), .val (.int p3), .val (.int p4), .val (.int p5), .val (.int p6)] [])) _
    refine XS.iload X3.here hx rfl (hb hby own_d2_25) rfl ?_
    show Steps p.tables e below (T3.setTop (mkF m 27 #[.val (.ref a1), .val (.int p2), .val (.int p3), .val (.int p4), .val (.int p5), .val (.int p6)] [(.int p6)])) _
    refine XS.ifYes X3.here hx rfl (pc0 := 27) (pc' := 84) rfl (hb hby own_d2_27) rfl ((if0 _ _).trans (flt hc27_8).2.1) (by decide) (by decide) ?_
    show Steps p.tables e below (T3.setTop (mkF m 84 #[.val (.ref a1), .val (.int p2), .val (.int p3), .val (.int p4), .val (.int p5), .val (.int p6)] [])) _
    refine XS.aloadN X3.here hx rfl (hb hby own_d2_84) rfl rfl ?_
    show Steps p.tables e below (T3.setTop (mkF m 85 #[.val (.ref a1), .val (.int p2), .val (.int p3), .val (.int p4), .val (.int p5), .val (.int p6)] [(.ref a1)])) _
    refine XS.iloadN X3.here hx rfl (hb hby own_d2_85) rfl ?_
    show Steps p.tables e below (T3.setTop (mkF m 86 #[.val (.ref a1), .val (.int p2), .val (.int p3), .val (.int p4), .val (.int p5), .val (.int p6)] [(.int p2), (.ref a1)])) _
    refine st9 _ ?_
    show Steps p.tables e below (T9.setTop (mkF m 89 #[.val (.ref a1), .val (.int p2), .val (.int p3), .val (.int p4), .val (.int p5), .val (.int p6)] [])) _
    refine XS.aloadN X9.here hx rfl (hb hby own_d2_89) rfl rfl ?_
    show Steps p.tables e below (T9.setTop (mkF m 90 #[.val (.ref a1), .val (.int p2), .val (.int p3), .val (.int p4), .val (.int p5), .val (.int p6)] [(.ref a1)])) _
    refine XS.iloadN X9.here hx rfl (hb hby own_d2_90) rfl ?_
    show Steps p.tables e below (T9.setTop (mkF m 91 #[.val (.ref a1), .val (.int p2), .val (.int p3), .val (.int p4), .val (.int p5), .val (.int p6)] [(.int p3), (.ref a1)])) _
    refine st12 _ ?_
    show Steps p.tables e below (T12.setTop (mkF m 94 #[.val (.ref a1), .val (.int p2), .val (.int p3), .val (.int p4), .val (.int p5), .val (.int p6)] [])) _
    refine XS.aloadN X12.here hx rfl (hb hby own_d2_94) rfl rfl ?_
    show Steps p.tables e below (T12.setTop (mkF m 95 #[.val (.ref a1), .val (.int p2), .val (.int p3), .val (.int p4), .val (.int p5), .val (.int p6)] [(.ref a1)])) _
    refine XS.iloadN X12.here hx rfl (hb hby own_d2_95) rfl ?_
    show Steps p.tables e below (T12.setTop (mkF m 96 #[.val (.ref a1), .val (.int p2), .val (.int p3), .val (.int p4), .val (.int p5), .val (.int p6)] [(.int p4), (.ref a1)])) _
    refine st15 _ ?_
    show Steps p.tables e below (T15.setTop (mkF m 99 #[.val (.ref a1), .val (.int p2), .val (.int p3), .val (.int p4), .val (.int p5), .val (.int p6)] [])) _
    refine XS.aloadN X15.here hx rfl (hb hby own_d2_99) rfl rfl ?_
    show Steps p.tables e below (T15.setTop (mkF m 100 #[.val (.ref a1), .val (.int p2), .val (.int p3), .val (.int p4), .val (.int p5), .val (.int p6)] [(.ref a1)])) _
    refine XS.iload X15.here hx rfl (hb hby own_d2_100) rfl ?_
    show Steps p.tables e below (T15.setTop (mkF m 102 #[.val (.ref a1), .val (.int p2), .val (.int p3), .val (.int p4), .val (.int p5), .val (.int p6)] [(.int p5), (.ref a1)])) _
    refine st18 _ ?_
    show Steps p.tables e below (T18.setTop (mkF m 105 #[.val (.ref a1), .val (.int p2), .val (.int p3), .val (.int p4), .val (.int p5), .val (.int p6)] [])) _
    refine XS.aloadN X18.here hx rfl (hb hby own_d2_105) rfl rfl ?_
    show Steps p.tables e below (T18.setTop (mkF m 106 #[.val (.ref a1), .val (.int p2), .val (.int p3), .val (.int p4), .val (.int p5), .val (.int p6)] [(.ref a1)])) _
    refine XS.iload X18.here hx rfl (hb hby own_d2_106) rfl ?_
    show Steps p.tables e below (T18.setTop (mkF m 108 #[.val (.ref a1), .val (.int p2), .val (.int p3), .val (.int p4), .val (.int p5), .val (.int p6)] [(.int p6), (.ref a1)])) _
    refine st21 _ ?_
    show Steps p.tables e below (T21.setTop (mkF m 111 #[.val (.ref a1), .val (.int p2), .val (.int p3), .val (.int p4), .val (.int p5), .val (.int p6)] [])) _
    exact X21.returnOut hx Bd.returns (hb hby own_d2_111) hr
  · show Q2 Z a1 p2 p3 p4 p5 p6 h0 n0 _ T21.heap _
    rw [e21]
    exact ⟨rfl, N21, K21, Q22, Q23, Q24, Fw21⟩
theorem own_nz {p : Int32} (h : (0 : Int32) < p) : ¬ p.toInt64 = (0 : Int64) := fun q => by
  rw [← Int64.toInt_inj, c_i2l] at q
  rw [Int32.lt_iff_toInt_lt] at h
  have e : (0 : Int64).toInt = 0 := by decide
  have e' : (0 : Int32).toInt = 0 := by decide
  omega
theorem own_d4_0 : decode prog_32_method_12_code 0 = .ok (.ldc2_w 93, 3) := by decide +kernel
theorem own_d4_3 : decode prog_32_method_12_code 3 = .ok (.aload_n 0, 1) := by decide +kernel
theorem own_d4_4 : decode prog_32_method_12_code 4 = .ok (.getfield 26, 3) := by decide +kernel
theorem own_d4_7 : decode prog_32_method_12_code 7 = .ok (.i2l, 1) := by decide +kernel
theorem own_d4_8 : decode prog_32_method_12_code 8 = .ok (.lmul, 1) := by decide +kernel
theorem own_d4_9 : decode prog_32_method_12_code 9 = .ok (.ldc2_w 93, 3) := by decide +kernel
theorem own_d4_12 : decode prog_32_method_12_code 12 = .ok (.aload_n 0, 1) := by decide +kernel
theorem own_d4_13 : decode prog_32_method_12_code 13 = .ok (.getfield 32, 3) := by decide +kernel
theorem own_d4_16 : decode prog_32_method_12_code 16 = .ok (.i2l, 1) := by decide +kernel
theorem own_d4_17 : decode prog_32_method_12_code 17 = .ok (.lmul, 1) := by decide +kernel
theorem own_d4_18 : decode prog_32_method_12_code 18 = .ok (.ladd, 1) := by decide +kernel
theorem own_d4_19 : decode prog_32_method_12_code 19 = .ok (.lstore_n 1, 1) := by decide +kernel
theorem own_d4_20 : decode prog_32_method_12_code 20 = .ok (.aload_n 0, 1) := by decide +kernel
theorem own_d4_21 : decode prog_32_method_12_code 21 = .ok (.getfield 41, 3) := by decide +kernel
theorem own_d4_24 : decode prog_32_method_12_code 24 = .ok (.ifCond .le 23, 3) := by decide +kernel
theorem own_d4_27 : decode prog_32_method_12_code 27 = .ok (.lload_n 1, 1) := by decide +kernel
theorem own_d4_28 : decode prog_32_method_12_code 28 = .ok (.ldc2_w 91, 3) := by decide +kernel
theorem own_d4_31 : decode prog_32_method_12_code 31 = .ok (.aload_n 0, 1) := by decide +kernel
theorem own_d4_32 : decode prog_32_method_12_code 32 = .ok (.getfield 41, 3) := by decide +kernel
theorem own_d4_35 : decode prog_32_method_12_code 35 = .ok (.i2l, 1) := by decide +kernel
theorem own_d4_36 : decode prog_32_method_12_code 36 = .ok (.ldiv, 1) := by decide +kernel
theorem own_d4_37 : decode prog_32_method_12_code 37 = .ok (.lcmp, 1) := by decide +kernel
theorem own_d4_38 : decode prog_32_method_12_code 38 = .ok (.ifCond .le 9, 3) := by decide +kernel
theorem own_d4_41 : decode prog_32_method_12_code 41 = .ok (.ldc2_w 91, 3) := by decide +kernel
theorem own_d4_44 : decode prog_32_method_12_code 44 = .ok (.goto 10, 3) := by decide +kernel
theorem own_d4_54 : decode prog_32_method_12_code 54 = .ok (.lreturn, 1) := by decide +kernel
theorem own_d4_47 : decode prog_32_method_12_code 47 = .ok (.lload_n 1, 1) := by decide +kernel
theorem own_d4_48 : decode prog_32_method_12_code 48 = .ok (.aload_n 0, 1) := by decide +kernel
theorem own_d4_49 : decode prog_32_method_12_code 49 = .ok (.getfield 41, 3) := by decide +kernel
theorem own_d4_52 : decode prog_32_method_12_code 52 = .ok (.i2l, 1) := by decide +kernel
theorem own_d4_53 : decode prog_32_method_12_code 53 = .ok (.lmul, 1) := by decide +kernel
def own_f_rm3 (fw : Int32) (fh : Int32) (fq : Int32) : Int64 := if (0 : Int32) < fq then if ((9223372036854775807 : Int64) / (fq.toInt64)) < (((2 : Int64) * (fw.toInt64)) + ((2 : Int64) * (fh.toInt64))) then (9223372036854775807 : Int64) else ((((2 : Int64) * (fw.toInt64)) + ((2 : Int64) * (fh.toInt64))) * (fq.toInt64)) else ((((2 : Int64) * (fw.toInt64)) + ((2 : Int64) * (fh.toInt64))) * (fq.toInt64))
theorem own_ef_rm3 (m : MethodId) (a1 : Addr) : entryFrame m #[(.ref a1)] 3 = mkF m 0 #[.val (.ref a1), .unset, .unset] [] := by first | (simp [entryFrame, mkF, argsToLocals, Value.category]; done) | rfl
def Q3 (Z : State) (a1 : Addr) (fw : Int32) (fh : Int32) (fq : Int32) (h0 : Heap) (n0 : Nat) (v : Option Value) (h : Heap) (L : List Loc) : Prop := v = some (.long (own_f_rm3 fw fh fq)) ∧ Fr n0 L ∧ h = h0
set_option maxRecDepth 65536 in
set_option maxHeartbeats 40000000 in
theorem rm3 (l : Launch) (Z : State) (a0 : Array Value) (hw : ∀ d ∈ tables_1, d.before a0 Z = true) (ws : List Jvm.Cond) (a1 : Addr) (fw : Int32) (fh : Int32) (fq : Int32) (h0 : Heap) (n0 : Nat) (Z0 : n0 ≤ h0.size) (F_a1_width : Fld Z h0 a1 "com/example/dalby/dalby/mesh/Mesh" "width" "I" (.int fw)) (F_a1_height : Fld Z h0 a1 "com/example/dalby/dalby/mesh/Mesh" "height" "I" (.int fh)) (F_a1_pins : Fld Z h0 a1 "com/example/dalby/dalby/mesh/Mesh" "pins" "I" (.int fq)) :
    MetFree l (⟨"com/example/dalby/dalby/mesh/Mesh", "edgePins", "()J"⟩ : MethodName) (head1 (Jvm.Cond.code (⟨"com/example/dalby/dalby/mesh/Mesh", "edgePins", "()J"⟩ : MethodName) prog_32_method_12_code 3 (some .long) :: ws) ({ frames := 0, cells := 0, slots := 0, locals := 0 } : Room)) (fun a U => a = #[(.ref a1)] ∧ Z.Warmed39 U.vm ∧ U.heap = h0) (fun _ _ _ _ _ => True) (fun _ U o U' => ∃ v L, o = .returned v ∧ Q3 Z a1 fw fh fq h0 n0 v U'.heap L ∧ FrameEnd U o U' L ({ frames := 0, cells := 0, slots := 0, locals := 0 } : Room).cells ({ frames := 0, cells := 0, slots := 0, locals := 0 } : Room).slots) := by
  refine MetFree.of_bodySF (plainFor_of_name own_pn0) hisR ?_
  intro p e s m args below meth c s₁ Bd hml0 hP hK
  obtain ⟨rfl, hZ, hh⟩ := hP
  have hx := Bd.exec
  have hby := Bd.bytes
  have hml : c.maxLocals = 3 := hml0
  have hown : s.vm.findClass "com/example/dalby/dalby/mesh/Mesh" = some m.cls := findClass_of_methodNamed Bd.named
  have hnm := (name_of_methodNamed Bd.named Bd.method).1
  have X0 : Stand p l e ({ frames := 0, cells := 0, slots := 0, locals := 0 } : Room) s m #[(.ref a1)] below meth c s₁ [] 0 0 := Stand.of_body Bd
  have e0 : s₁.heap = h0 := by rw [← hh, Bd.state]; rfl
  have N0 := Fr.nil n0
  have K0 : Keep h0 h0 [] := Keep.refl h0 _
  have pre0 : ∀ t, Steps p.tables e below (s₁.setTop (mkF m 0 #[.val (.ref a1), .unset, .unset] [])) t → Steps p.tables e below (s₁.setTop (entryFrame m #[(.ref a1)] 3)) t := fun t k => castTop (own_ef_rm3 m a1) k
  obtain ⟨T33, X33, e33, st33⟩ := getF X0 hx hZ hown (host := "") (Or.inl (hw _ (List.mem_of_getElem? (i := 14) rfl))) Via.refl e0 F_a1_width (g := (mkF m 4 #[.val (.ref a1), .unset, .unset] [(.ref a1), (.long (2 : Int64))])) rfl rfl (hb hby own_d4_4)
  obtain ⟨T34, X34, e34, st34⟩ := getF X33 hx hZ hown (host := "") (Or.inl (hw _ (List.mem_of_getElem? (i := 16) rfl))) Via.refl e33 F_a1_height (g := (mkF m 13 #[.val (.ref a1), .unset, .unset] [(.ref a1), (.long (2 : Int64)), (.long ((2 : Int64) * (fw.toInt64)))])) rfl rfl (hb hby own_d4_13)
  obtain ⟨T35, X35, e35, st35⟩ := getF X34 hx hZ hown (host := "") (Or.inl (hw _ (List.mem_of_getElem? (i := 22) rfl))) Via.refl e34 F_a1_pins (g := (mkF m 21 #[.val (.ref a1), .val (.long (((2 : Int64) * (fw.toInt64)) + ((2 : Int64) * (fh.toInt64)))), .second] [(.ref a1)])) rfl rfl (hb hby own_d4_21)
  have pre36 : ∀ t, Steps p.tables e below (T35.setTop (mkF m 24 #[.val (.ref a1), .val (.long (((2 : Int64) * (fw.toInt64)) + ((2 : Int64) * (fh.toInt64)))), .second] [(.int fq)])) t → Steps p.tables e below (s₁.setTop (entryFrame m #[(.ref a1)] 3)) t := fun t k => by
    refine pre0 _ ?_
    show Steps p.tables e below (s₁.setTop (mkF m 0 #[.val (.ref a1), .unset, .unset] [])) _
    refine X0.ldc2Long hx hown (mvT hZ (hw _ (List.mem_of_getElem? (i := 29) rfl))) (g := (mkF m 0 #[.val (.ref a1), .unset, .unset] [])) rfl (hb hby own_d4_0) _ ?_
    show Steps p.tables e below (s₁.setTop (mkF m 3 #[.val (.ref a1), .unset, .unset] [(.long (2 : Int64))])) _
    refine XS.aloadN X0.here hx rfl (hb hby own_d4_3) rfl rfl ?_
    show Steps p.tables e below (s₁.setTop (mkF m 4 #[.val (.ref a1), .unset, .unset] [(.ref a1), (.long (2 : Int64))])) _
    refine st33 _ ?_
    show Steps p.tables e below (T33.setTop (mkF m 7 #[.val (.ref a1), .unset, .unset] [(.int fw), (.long (2 : Int64))])) _
    refine XS.i2l X33.here hx rfl (hb hby own_d4_7) rfl ?_
    show Steps p.tables e below (T33.setTop (mkF m 8 #[.val (.ref a1), .unset, .unset] [(.long (fw.toInt64)), (.long (2 : Int64))])) _
    refine XS.lmul X33.here hx rfl (hb hby own_d4_8) rfl ?_
    show Steps p.tables e below (T33.setTop (mkF m 9 #[.val (.ref a1), .unset, .unset] [(.long ((2 : Int64) * (fw.toInt64)))])) _
    refine X33.ldc2Long hx hown (mvT hZ (hw _ (List.mem_of_getElem? (i := 29) rfl))) (g := (mkF m 9 #[.val (.ref a1), .unset, .unset] [(.long ((2 : Int64) * (fw.toInt64)))])) rfl (hb hby own_d4_9) _ ?_
    show Steps p.tables e below (T33.setTop (mkF m 12 #[.val (.ref a1), .unset, .unset] [(.long (2 : Int64)), (.long ((2 : Int64) * (fw.toInt64)))])) _
    refine XS.aloadN X33.here hx rfl (hb hby own_d4_12) rfl rfl ?_
    show Steps p.tables e below (T33.setTop (mkF m 13 #[.val (.ref a1), .unset, .unset] [(.ref a1), (.long (2 : Int64)), (.long ((2 : Int64) * (fw.toInt64)))])) _
    refine st34 _ ?_
    show Steps p.tables e below (T34.setTop (mkF m 16 #[.val (.ref a1), .unset, .unset] [(.int fh), (.long (2 : Int64)), (.long ((2 : Int64) * (fw.toInt64)))])) _
    refine XS.i2l X34.here hx rfl (hb hby own_d4_16) rfl ?_
    show Steps p.tables e below (T34.setTop (mkF m 17 #[.val (.ref a1), .unset, .unset] [(.long (fh.toInt64)), (.long (2 : Int64)), (.long ((2 : Int64) * (fw.toInt64)))])) _
    refine XS.lmul X34.here hx rfl (hb hby own_d4_17) rfl ?_
    show Steps p.tables e below (T34.setTop (mkF m 18 #[.val (.ref a1), .unset, .unset] [(.long ((2 : Int64) * (fh.toInt64))), (.long ((2 : Int64) * (fw.toInt64)))])) _
    refine XS.ladd X34.here hx rfl (hb hby own_d4_18) rfl ?_
    show Steps p.tables e below (T34.setTop (mkF m 19 #[.val (.ref a1), .unset, .unset] [(.long (((2 : Int64) * (fw.toInt64)) + ((2 : Int64) * (fh.toInt64))))])) _
    refine XS.lstoreN X34.here hx rfl (hb hby own_d4_19) rfl (l' := #[.val (.ref a1), .val (.long (((2 : Int64) * (fw.toInt64)) + ((2 : Int64) * (fh.toInt64)))), .second]) rfl ?_
    show Steps p.tables e below (T34.setTop (mkF m 20 #[.val (.ref a1), .val (.long (((2 : Int64) * (fw.toInt64)) + ((2 : Int64) * (fh.toInt64)))), .second] [])) _
    refine XS.aloadN X34.here hx rfl (hb hby own_d4_20) rfl rfl ?_
    show Steps p.tables e below (T34.setTop (mkF m 21 #[.val (.ref a1), .val (.long (((2 : Int64) * (fw.toInt64)) + ((2 : Int64) * (fh.toInt64)))), .second] [(.ref a1)])) _
    refine st35 _ ?_
    exact k
  by_cases hc24 : (0 : Int32) < fq
  · obtain ⟨T37, X37, e37, st37⟩ := getF X35 hx hZ hown (host := "") (Or.inl (hw _ (List.mem_of_getElem? (i := 22) rfl))) Via.refl e35 F_a1_pins (g := (mkF m 32 #[.val (.ref a1), .val (.long (((2 : Int64) * (fw.toInt64)) + ((2 : Int64) * (fh.toInt64)))), .second] [(.ref a1), (.long (9223372036854775807 : Int64)), (.long (((2 : Int64) * (fw.toInt64)) + ((2 : Int64) * (fh.toInt64))))])) rfl rfl (hb hby own_d4_32)
    have pre38 : ∀ t, Steps p.tables e below (T37.setTop (mkF m 38 #[.val (.ref a1), .val (.long (((2 : Int64) * (fw.toInt64)) + ((2 : Int64) * (fh.toInt64)))), .second] [(.int (lcmpW (((2 : Int64) * (fw.toInt64)) + ((2 : Int64) * (fh.toInt64))) ((9223372036854775807 : Int64) / (fq.toInt64))))])) t → Steps p.tables e below (s₁.setTop (entryFrame m #[(.ref a1)] 3)) t := fun t k => by
      refine pre36 _ ?_
      show Steps p.tables e below (T35.setTop (mkF m 24 #[.val (.ref a1), .val (.long (((2 : Int64) * (fw.toInt64)) + ((2 : Int64) * (fh.toInt64)))), .second] [(.int fq)])) _
      refine XS.ifNo X35.here hx rfl (hb hby own_d4_24) rfl ((if0 _ _).trans (tlt hc24).2.2.2) ?_
      show Steps p.tables e below (T35.setTop (mkF m 27 #[.val (.ref a1), .val (.long (((2 : Int64) * (fw.toInt64)) + ((2 : Int64) * (fh.toInt64)))), .second] [])) _
      refine XS.lloadN X35.here hx rfl (hb hby own_d4_27) rfl ?_
      show Steps p.tables e below (T35.setTop (mkF m 28 #[.val (.ref a1), .val (.long (((2 : Int64) * (fw.toInt64)) + ((2 : Int64) * (fh.toInt64)))), .second] [(.long (((2 : Int64) * (fw.toInt64)) + ((2 : Int64) * (fh.toInt64))))])) _
      refine X35.ldc2Long hx hown (mvT hZ (hw _ (List.mem_of_getElem? (i := 30) rfl))) (g := (mkF m 28 #[.val (.ref a1), .val (.long (((2 : Int64) * (fw.toInt64)) + ((2 : Int64) * (fh.toInt64)))), .second] [(.long (((2 : Int64) * (fw.toInt64)) + ((2 : Int64) * (fh.toInt64))))])) rfl (hb hby own_d4_28) _ ?_
      show Steps p.tables e below (T35.setTop (mkF m 31 #[.val (.ref a1), .val (.long (((2 : Int64) * (fw.toInt64)) + ((2 : Int64) * (fh.toInt64)))), .second] [(.long (9223372036854775807 : Int64)), (.long (((2 : Int64) * (fw.toInt64)) + ((2 : Int64) * (fh.toInt64))))])) _
      refine XS.aloadN X35.here hx rfl (hb hby own_d4_31) rfl rfl ?_
      show Steps p.tables e below (T35.setTop (mkF m 32 #[.val (.ref a1), .val (.long (((2 : Int64) * (fw.toInt64)) + ((2 : Int64) * (fh.toInt64)))), .second] [(.ref a1), (.long (9223372036854775807 : Int64)), (.long (((2 : Int64) * (fw.toInt64)) + ((2 : Int64) * (fh.toInt64))))])) _
      refine st37 _ ?_
      show Steps p.tables e below (T37.setTop (mkF m 35 #[.val (.ref a1), .val (.long (((2 : Int64) * (fw.toInt64)) + ((2 : Int64) * (fh.toInt64)))), .second] [(.int fq), (.long (9223372036854775807 : Int64)), (.long (((2 : Int64) * (fw.toInt64)) + ((2 : Int64) * (fh.toInt64))))])) _
      refine XS.i2l X37.here hx rfl (hb hby own_d4_35) rfl ?_
      show Steps p.tables e below (T37.setTop (mkF m 36 #[.val (.ref a1), .val (.long (((2 : Int64) * (fw.toInt64)) + ((2 : Int64) * (fh.toInt64)))), .second] [(.long (fq.toInt64)), (.long (9223372036854775807 : Int64)), (.long (((2 : Int64) * (fw.toInt64)) + ((2 : Int64) * (fh.toInt64))))])) _
      refine XS.ldiv X37.here hx rfl (hb hby own_d4_36) rfl (own_nz hc24) ?_
      show Steps p.tables e below (T37.setTop (mkF m 37 #[.val (.ref a1), .val (.long (((2 : Int64) * (fw.toInt64)) + ((2 : Int64) * (fh.toInt64)))), .second] [(.long ((9223372036854775807 : Int64) / (fq.toInt64))), (.long (((2 : Int64) * (fw.toInt64)) + ((2 : Int64) * (fh.toInt64))))])) _
      refine XS.lcmp X37.here hx rfl (hb hby own_d4_37) rfl ?_
      exact k
    by_cases hc38 : ((9223372036854775807 : Int64) / (fq.toInt64)) < (((2 : Int64) * (fw.toInt64)) + ((2 : Int64) * (fh.toInt64)))
    · obtain ⟨fs, hr, hrun, hended, hW, hsame⟩ := X37.leave (v := some (.long (9223372036854775807 : Int64))) (fun h => by rw [Bd.returns] at h; cases h)
      refine ⟨_, _, pre38 _ ?_, hrun, hended, _, _, rfl, ?_, ⟨_, rfl⟩, hW, hsame.mono (by decide) (by decide)⟩
      · show Steps p.tables e below (T37.setTop (mkF m 38 #[.val (.ref a1), .val (.long (((2 : Int64) * (fw.toInt64)) + ((2 : Int64) * (fh.toInt64)))), .second] [(.int (lcmpW (((2 : Int64) * (fw.toInt64)) + ((2 : Int64) * (fh.toInt64))) ((9223372036854775807 : Int64) / (fq.toInt64))))])) _
        refine XS.ifNo X37.here hx rfl (hb hby own_d4_38) rfl ((if0 _ _).trans (tlt ((lw_gt _ _).mpr hc38)).2.2.2) ?_
        show Steps p.tables e below (T37.setTop (mkF m 41 #[.val (.ref a1), .val (.long (((2 : Int64) * (fw.toInt64)) + ((2 : Int64) * (fh.toInt64)))), .second] [])) _
        refine X37.ldc2Long hx hown (mvT hZ (hw _ (List.mem_of_getElem? (i := 30) rfl))) (g := (mkF m 41 #[.val (.ref a1), .val (.long (((2 : Int64) * (fw.toInt64)) + ((2 : Int64) * (fh.toInt64)))), .second] [])) rfl (hb hby own_d4_41) _ ?_
        show Steps p.tables e below (T37.setTop (mkF m 44 #[.val (.ref a1), .val (.long (((2 : Int64) * (fw.toInt64)) + ((2 : Int64) * (fh.toInt64)))), .second] [(.long (9223372036854775807 : Int64))])) _
        refine XS.goto X37.here hx rfl (pc0 := 44) (pc' := 54) rfl (hb hby own_d4_44) (by decide) (by decide) ?_
        show Steps p.tables e below (T37.setTop (mkF m 54 #[.val (.ref a1), .val (.long (((2 : Int64) * (fw.toInt64)) + ((2 : Int64) * (fh.toInt64)))), .second] [(.long (9223372036854775807 : Int64))])) _
        jvm_step X37.here [X37.here.top, hx, (hb hby own_d4_54), X37.method', Bd.returns, narrow]
        first | (intro acts; rw [hr _ acts rfl rfl rfl]) | rw [hr _ _ rfl rfl rfl]
        exact Steps.refl _
      · show Q3 Z a1 fw fh fq h0 n0 _ T37.heap _
        rw [e37]
        exact ⟨(congrArg (fun z => some (Value.long z)) (by unfold own_f_rm3; rw [if_pos hc24, if_pos hc38] : (9223372036854775807 : Int64) = (own_f_rm3 fw fh fq))), N0, rfl⟩
    · obtain ⟨T39, X39, e39, st39⟩ := getF X37 hx hZ hown (host := "") (Or.inl (hw _ (List.mem_of_getElem? (i := 22) rfl))) Via.refl e37 F_a1_pins (g := (mkF m 49 #[.val (.ref a1), .val (.long (((2 : Int64) * (fw.toInt64)) + ((2 : Int64) * (fh.toInt64)))), .second] [(.ref a1), (.long (((2 : Int64) * (fw.toInt64)) + ((2 : Int64) * (fh.toInt64))))])) rfl rfl (hb hby own_d4_49)
      obtain ⟨fs, hr, hrun, hended, hW, hsame⟩ := X39.leave (v := some (.long ((((2 : Int64) * (fw.toInt64)) + ((2 : Int64) * (fh.toInt64))) * (fq.toInt64)))) (fun h => by rw [Bd.returns] at h; cases h)
      refine ⟨_, _, pre38 _ ?_, hrun, hended, _, _, rfl, ?_, ⟨_, rfl⟩, hW, hsame.mono (by decide) (by decide)⟩
      · show Steps p.tables e below (T37.setTop (mkF m 38 #[.val (.ref a1), .val (.long (((2 : Int64) * (fw.toInt64)) + ((2 : Int64) * (fh.toInt64)))), .second] [(.int (lcmpW (((2 : Int64) * (fw.toInt64)) + ((2 : Int64) * (fh.toInt64))) ((9223372036854775807 : Int64) / (fq.toInt64))))])) _
        refine XS.ifYes X37.here hx rfl (pc0 := 38) (pc' := 47) rfl (hb hby own_d4_38) rfl ((if0 _ _).trans (flt (fun q => hc38 ((lw_gt _ _).mp q))).2.2.2) (by decide) (by decide) ?_
        show Steps p.tables e below (T37.setTop (mkF m 47 #[.val (.ref a1), .val (.long (((2 : Int64) * (fw.toInt64)) + ((2 : Int64) * (fh.toInt64)))), .second] [])) _
        refine XS.lloadN X37.here hx rfl (hb hby own_d4_47) rfl ?_
        show Steps p.tables e below (T37.setTop (mkF m 48 #[.val (.ref a1), .val (.long (((2 : Int64) * (fw.toInt64)) + ((2 : Int64) * (fh.toInt64)))), .second] [(.long (((2 : Int64) * (fw.toInt64)) + ((2 : Int64) * (fh.toInt64))))])) _
        refine XS.aloadN X37.here hx rfl (hb hby own_d4_48) rfl rfl ?_
        show Steps p.tables e below (T37.setTop (mkF m 49 #[.val (.ref a1), .val (.long (((2 : Int64) * (fw.toInt64)) + ((2 : Int64) * (fh.toInt64)))), .second] [(.ref a1), (.long (((2 : Int64) * (fw.toInt64)) + ((2 : Int64) * (fh.toInt64))))])) _
        refine st39 _ ?_
        show Steps p.tables e below (T39.setTop (mkF m 52 #[.val (.ref a1), .val (.long (((2 : Int64) * (fw.toInt64)) + ((2 : Int64) * (fh.toInt64)))), .second] [(.int fq), (.long (((2 : Int64) * (fw.toInt64)) + ((2 : Int64) * (fh.toInt64))))])) _
        refine XS.i2l X39.here hx rfl (hb hby own_d4_52) rfl ?_
        show Steps p.tables e below (T39.setTop (mkF m 53 #[.val (.ref a1), .val (.long (((2 : Int64) * (fw.toInt64)) + ((2 : Int64) * (fh.toInt64)))), .second] [(.long (fq.toInt64)), (.long (((2 : Int64) * (fw.toInt64)) + ((2 : Int64) * (fh.toInt64))))])) _
        refine XS.lmul X39.here hx rfl (hb hby own_d4_53) rfl ?_
        show Steps p.tables e below (T39.setTop (mkF m 54 #[.val (.ref a1), .val (.long (((2 : Int64) * (fw.toInt64)) + ((2 : Int64) * (fh.toInt64)))), .second] [(.long ((((2 : Int64) * (fw.toInt64)) + ((2 : Int64) * (fh.toInt64))) * (fq.toInt64)))])) _
        jvm_step X39.here [X39.here.top, hx, (hb hby own_d4_54), X39.method', Bd.returns, narrow]
        first | (intro acts; rw [hr _ acts rfl rfl rfl]) | rw [hr _ _ rfl rfl rfl]
        exact Steps.refl _
      · show Q3 Z a1 fw fh fq h0 n0 _ T39.heap _
        rw [e39]
        exact ⟨(congrArg (fun z => some (Value.long z)) (by unfold own_f_rm3; rw [if_pos hc24, if_neg hc38] : ((((2 : Int64) * (fw.toInt64)) + ((2 : Int64) * (fh.toInt64))) * (fq.toInt64)) = (own_f_rm3 fw fh fq))), N0, rfl⟩
  · obtain ⟨T40, X40, e40, st40⟩ := getF X35 hx hZ hown (host := "") (Or.inl (hw _ (List.mem_of_getElem? (i := 22) rfl))) Via.refl e35 F_a1_pins (g := (mkF m 49 #[.val (.ref a1), .val (.long (((2 : Int64) * (fw.toInt64)) + ((2 : Int64) * (fh.toInt64)))), .second] [(.ref a1), (.long (((2 : Int64) * (fw.toInt64)) + ((2 : Int64) * (fh.toInt64))))])) rfl rfl (hb hby own_d4_49)
    obtain ⟨fs, hr, hrun, hended, hW, hsame⟩ := X40.leave (v := some (.long ((((2 : Int64) * (fw.toInt64)) + ((2 : Int64) * (fh.toInt64))) * (fq.toInt64)))) (fun h => by rw [Bd.returns] at h; cases h)
    refine ⟨_, _, pre36 _ ?_, hrun, hended, _, _, rfl, ?_, ⟨_, rfl⟩, hW, hsame.mono (by decide) (by decide)⟩
    · show Steps p.tables e below (T35.setTop (mkF m 24 #[.val (.ref a1), .val (.long (((2 : Int64) * (fw.toInt64)) + ((2 : Int64) * (fh.toInt64)))), .second] [(.int fq)])) _
      refine XS.ifYes X35.here hx rfl (pc0 := 24) (pc' := 47) rfl (hb hby own_d4_24) rfl ((if0 _ _).trans (flt hc24).2.2.2) (by decide) (by decide) ?_
      show Steps p.tables e below (T35.setTop (mkF m 47 #[.val (.ref a1), .val (.long (((2 : Int64) * (fw.toInt64)) + ((2 : Int64) * (fh.toInt64)))), .second] [])) _
      refine XS.lloadN X35.here hx rfl (hb hby own_d4_47) rfl ?_
      show Steps p.tables e below (T35.setTop (mkF m 48 #[.val (.ref a1), .val (.long (((2 : Int64) * (fw.toInt64)) + ((2 : Int64) * (fh.toInt64)))), .second] [(.long (((2 : Int64) * (fw.toInt64)) + ((2 : Int64) * (fh.toInt64))))])) _
      refine XS.aloadN X35.here hx rfl (hb hby own_d4_48) rfl rfl ?_
      show Steps p.tables e below (T35.setTop (mkF m 49 #[.val (.ref a1), .val (.long (((2 : Int64) * (fw.toInt64)) + ((2 : Int64) * (fh.toInt64)))), .second] [(.ref a1), (.long (((2 : Int64) * (fw.toInt64)) + ((2 : Int64) * (fh.toInt64))))])) _
      refine st40 _ ?_
      show Steps p.tables e below (T40.setTop (mkF m 52 #[.val (.ref a1), .val (.long (((2 : Int64) * (fw.toInt64)) + ((2 : Int64) * (fh.toInt64)))), .second] [(.int fq), (.long (((2 : Int64) * (fw.toInt64)) + ((2 : Int64) * (fh.toInt64))))])) _
      refine XS.i2l X40.here hx rfl (hb hby own_d4_52) rfl ?_
      show Steps p.tables e below (T40.setTop (mkF m 53 #[.val (.ref a1), .val (.long (((2 : Int64) * (fw.toInt64)) + ((2 : Int64) * (fh.toInt64)))), .second] [(.long (fq.toInt64)), (.long (((2 : Int64) * (fw.toInt64)) + ((2 : Int64) * (fh.toInt64))))])) _
      refine XS.lmul X40.here hx rfl (hb hby own_d4_53) rfl ?_
      show Steps p.tables e below (T40.setTop (mkF m 54 #[.val (.ref a1), .val (.long (((2 : Int64) * (fw.toInt64)) + ((2 : Int64) * (fh.toInt64)))), .second] [(.long ((((2 : Int64) * (fw.toInt64)) + ((2 : Int64) * (fh.toInt64))) * (fq.toInt64)))])) _
      jvm_step X40.here [X40.here.top, hx, (hb hby own_d4_54), X40.method', Bd.returns, narrow]
      first | (intro acts; rw [hr _ acts rfl rfl rfl]) | rw [hr _ _ rfl rfl rfl]
      exact Steps.refl _
    · show Q3 Z a1 fw fh fq h0 n0 _ T40.heap _
      rw [e40]
      exact ⟨(congrArg (fun z => some (Value.long z)) (by unfold own_f_rm3; rw [if_neg hc24] : ((((2 : Int64) * (fw.toInt64)) + ((2 : Int64) * (fh.toInt64))) * (fq.toInt64)) = (own_f_rm3 fw fh fq))), N0, rfl⟩
theorem own_w (x : Int32) : 1 ≤ (own_f_rm1 (1 : Int32) (x &&& (2147483647 : Int32))).toInt := by
  have h1 := c_mask x 2147483647 31 (by decide) (by decide)
  have e : (1 : Int32).toInt = 1 := by decide
  unfold own_f_rm1
  split
  · rename_i q; rw [Int32.lt_iff_toInt_lt] at q; omega
  · omega
theorem own_w' (x : Int32) : ¬ (own_f_rm1 (1 : Int32) (x &&& (2147483647 : Int32))) < (1 : Int32) := by
  have := own_w x; rw [Int32.lt_iff_toInt_lt, show (1 : Int32).toInt = 1 from by decide]; omega
theorem own_p (x : Int32) : 0 ≤ (x &&& (2147483647 : Int32)).toInt := by
  have h1 := c_mask x 2147483647 31 (by decide) (by decide); omega
theorem own_p' (x : Int32) : ¬ (x &&& (2147483647 : Int32)) < (0 : Int32) := by
  have := own_p x; rw [Int32.lt_iff_toInt_lt, show (0 : Int32).toInt = 0 from by decide]; omega
/-- the true numbers -/
theorem own_core (w h q : Int32) (hw : 1 ≤ w.toInt) (hh : 1 ≤ h.toInt) (hq : 0 ≤ q.toInt) :
    own_f_rm3 w h q = (if (((2 : Int64) * (w.toInt64 + h.toInt64)) * q.toInt64) < (0 : Int64) then (9223372036854775807 : Int64) else (((2 : Int64) * (w.toInt64 + h.toInt64)) * q.toInt64)) := by
  have rw_ := rng32 w; have rh := rng32 h; have rq := rng32 q
  have t2 : (2 : Int64).toInt = 2 := by decide
  have t0 : (0 : Int64).toInt = 0 := by decide
  have tM : (9223372036854775807 : Int64).toInt = 9223372036854775807 := by decide
  have z0 : (0 : Int32).toInt = 0 := by decide
  have cw := c_i2l w; have ch := c_i2l h; have cq := c_i2l q
  -- the sum
  have s1 := c_ladd w.toInt64 h.toInt64; have s2 := rng64 (w.toInt64 + h.toInt64)
  have s3 : (w.toInt64 + h.toInt64).toInt = w.toInt + h.toInt := by omega
  have m1 := c_lmul (2 : Int64) (w.toInt64 + h.toInt64); have m2 := rng64 ((2 : Int64) * (w.toInt64 + h.toInt64))
  rw [t2] at m1
  have m3 : ((2 : Int64) * (w.toInt64 + h.toInt64)).toInt = 2 * (w.toInt + h.toInt) := by omega
  have a1 := c_lmul (2 : Int64) w.toInt64; have a2 := rng64 ((2 : Int64) * w.toInt64); rw [t2] at a1
  have a3 : ((2 : Int64) * w.toInt64).toInt = 2 * w.toInt := by omega
  have b1 := c_lmul (2 : Int64) h.toInt64; have b2 := rng64 ((2 : Int64) * h.toInt64); rw [t2] at b1
  have b3 : ((2 : Int64) * h.toInt64).toInt = 2 * h.toInt := by omega
  have d1 := c_ladd ((2 : Int64) * w.toInt64) ((2 : Int64) * h.toInt64); have d2 := rng64 ((2 : Int64) * w.toInt64 + (2 : Int64) * h.toInt64)
  have d3 : ((2 : Int64) * w.toInt64 + (2 : Int64) * h.toInt64).toInt = 2 * (w.toInt + h.toInt) := by omega
  have same : (2 : Int64) * w.toInt64 + (2 : Int64) * h.toInt64 = (2 : Int64) * (w.toInt64 + h.toInt64) := by rw [← Int64.toInt_inj]; omega
  unfold own_f_rm3
  rw [same]
  generalize (2 : Int64) * (w.toInt64 + h.toInt64) = P at *
  have p1 := c_lmul P q.toInt64; have p2 := rng64 (P * q.toInt64)
  rw [cq] at p1
  generalize hX : P * q.toInt64 = X at *
  -- the true product
  have hPp : 4 ≤ P.toInt := by omega
  have hPq : P.toInt < 8589934592 := by omega
  have hn : 0 ≤ P.toInt * q.toInt := Int.mul_nonneg (by omega) hq
  have hlt : P.toInt * q.toInt < 18446744073709551616 := by
    have k1 : P.toInt * q.toInt ≤ 8589934591 * q.toInt := Int.mul_le_mul_of_nonneg_right (by omega) hq
    have k2 : (8589934591 : Int) * q.toInt ≤ 8589934591 * 2147483647 := Int.mul_le_mul_of_nonneg_left (by omega) (by decide)
    omega
  by_cases hc : (0 : Int32) < q
  · rw [if_pos hc]
    have hq1 : 1 ≤ q.toInt := by rw [Int32.lt_iff_toInt_lt] at hc; omega
    have hdv : ((9223372036854775807 : Int64) / q.toInt64).toInt = 9223372036854775807 / q.toInt := by
      have k := (c_ldiv (9223372036854775807 : Int64) q.toInt64 q.toInt cq (fun e => by rw [← Int64.toInt_inj, cq] at e; have : (-1 : Int64).toInt = -1 := by decide
                                                                                        omega)).1 (by rw [tM]; decide)
      rw [k, tM]
    have hd1 : 9223372036854775807 / q.toInt * q.toInt ≤ 9223372036854775807 := Int.ediv_mul_le _ (by omega)
    have hd2 : 9223372036854775807 < (9223372036854775807 / q.toInt + 1) * q.toInt := by
      have := Int.lt_ediv_add_one_mul_self (9223372036854775807 : Int) (show (0 : Int) < q.toInt by omega); omega
    by_cases hb : ((9223372036854775807 : Int64) / q.toInt64) < P
    · rw [if_pos hb]
      rw [Int64.lt_iff_toInt_lt, hdv] at hb
      have k3 : (9223372036854775807 / q.toInt + 1) * q.toInt ≤ P.toInt * q.toInt := Int.mul_le_mul_of_nonneg_right (by omega) hq
      rw [if_pos (by rw [Int64.lt_iff_toInt_lt]; omega)]
    · rw [if_neg hb]
      rw [Int64.lt_iff_toInt_lt, hdv] at hb
      have k3 : P.toInt * q.toInt ≤ 9223372036854775807 / q.toInt * q.toInt := Int.mul_le_mul_of_nonneg_right (by omega) hq
      rw [if_neg (by rw [Int64.lt_iff_toInt_lt]; omega)]
  · rw [if_neg hc]
    have hq0 : q.toInt = 0 := by rw [Int32.lt_iff_toInt_lt] at hc; omega
    rw [hq0] at p1
    rw [if_neg (by rw [Int64.lt_iff_toInt_lt]; omega)]
theorem own_pd0 : parseMethodDescriptor "(II)I" = some ⟨[.int, .int], some .int⟩ := by decide +kernel
theorem own_pd1 : parseMethodDescriptor "(IIIII)V" = some ⟨[.int, .int, .int, .int, .int], none⟩ := by decide +kernel
theorem own_pd2 : parseMethodDescriptor "()J" = some ⟨[], some .long⟩ := by decide +kernel
theorem own_pn1 : plainName "com/example/dalby/dalby/mesh/MeshEdgePinsPinLaw" = true := by first | (simp [plainName, overriddenIn]; done) | decide +kernel
theorem own_ef_rm0 (m : MethodId) (p0 : Int32) (p1 : Int32) (p2 : Int32) : entryFrame m #[(.int p0), (.int p1), (.int p2)] maxLocals = mkF m 0 #[.val (.int p0), .val (.int p1), .val (.int p2), .unset, .unset, .unset, .unset, .unset, .unset, .unset, .unset, .unset, .unset, .unset, .unset] [] := by first | (simp [entryFrame, mkF, argsToLocals, Value.category, maxLocals]; done) | rfl
def Q0 (Z : State) (p0 : Int32) (p1 : Int32) (p2 : Int32) (h0 : Heap) (n0 : Nat) (v : Option Value) (h : Heap) (L : List Loc) : Prop := v = some (.int (1 : Int32)) ∧ Fr n0 L
set_option maxRecDepth 65536 in
set_option maxHeartbeats 40000000 in
theorem rm0 (l : Launch) (Z : State) (a0 : Array Value) (hw : ∀ d ∈ tables_1, d.before a0 Z = true) (ws : List Jvm.Cond) (p0 : Int32) (p1 : Int32) (p2 : Int32) (h0 : Heap) (n0 : Nat) (Z0 : n0 ≤ h0.size) :
    MetFree l x (head1 (Jvm.Cond.code x code maxLocals ret :: ws) room_1) (fun a U => a = #[(.int p0), (.int p1), (.int p2)] ∧ Z.Warmed39 U.vm ∧ U.heap = h0) (fun _ _ _ _ _ => True) (fun _ U o U' => ∃ v L, o = .returned v ∧ Q0 Z p0 p1 p2 h0 n0 v U'.heap L ∧ FrameEnd U o U' L room_1.cells room_1.slots) := by
  refine MetFree.of_bodySF (plainFor_of_name own_pn1) hisR ?_
  intro p e s m args below meth c s₁ Bd hml0 hP hK
  obtain ⟨rfl, hZ, hh⟩ := hP
  have hx := Bd.exec
  have hby := Bd.bytes
  have hml : c.maxLocals = 15 := hml0
  have hown : s.vm.findClass "com/example/dalby/dalby/mesh/MeshEdgePinsPinLaw" = some m.cls := findClass_of_methodNamed Bd.named
  have hnm := (name_of_methodNamed Bd.named Bd.method).1
  have X0 : Stand p l e room_1 s m #[(.int p0), (.int p1), (.int p2)] below meth c s₁ [] 0 0 := Stand.of_body Bd
  have e0 : s₁.heap = h0 := by rw [← hh, Bd.state]; rfl
  have N0 := Fr.nil n0
  have K0 : Keep h0 h0 [] := Keep.refl h0 _
  have pre0 : ∀ t, Steps p.tables e below (s₁.setTop (mkF m 0 #[.val (.int p0), .val (.int p1), .val (.int p2), .unset, .unset, .unset, .unset, .unset, .unset, .unset, .unset, .unset, .unset, .unset, .unset] [])) t → Steps p.tables e below (s₁.setTop (entryFrame m #[(.int p0), (.int p1), (.int p2)] maxLocals)) t := fun t k => castTop (own_ef_rm0 m p0 p1 p2) k
  obtain ⟨_, _, ⟨T41, L41, k41, n41⟩, -, X41, ⟨Lc41, hQ41, l41, y41, z41⟩, st41⟩ := Jvm.LawKit.callS X0 hx (y := (⟨"java/lang/Math", "max", "(II)I"⟩ : MethodName)) hown (mvT hZ (hw _ (List.mem_of_getElem? (i := 1) rfl))) (mvT hZ (hw _ (List.mem_of_getElem? (i := 2) rfl))) (mvT hZ (hw _ (List.mem_of_getElem? (i := 3) rfl))) (mvT hZ (hw _ (List.mem_of_getElem? (i := 4) rfl))) (by decide) (backOf (W := 0) (rm1 l Z a0 hw [] (1 : Int32) (p0 &&& (2147483647 : Int32)) h0 n0 (Nat.le_trans Z0 K0.1) ) hZ (hw _ (List.mem_of_getElem? (i := 4) rfl)) (hw _ (List.mem_of_getElem? (i := 3) rfl)) (by decide) (by decide)) (g := (mkF m 5 #[.val (.int p0), .val (.int p1), .val (.int p2), .unset, .unset, .unset, .unset, .unset, .unset, .unset, .unset, .unset, .unset, .unset, .unset] [(.int (p0 &&& (2147483647 : Int32))), (.int (1 : Int32))])) rfl (by rw [hml]; rfl) (argsL := [(.int (1 : Int32)), (.int (p0 &&& (2147483647 : Int32)))]) (rest := []) (lenOf own_pd0 rfl) rfl (by show 2 * 0 + _ ≤ _; exact Nat.le_of_eq rfl) (hb hby at_5) (fun _ _ => ⟨rfl, e0, (by decide : 0 + 0 ≤ _), (by decide : 0 + 0 ≤ _)⟩)
  dsimp only [Pt.U, Pt.locs, Pt.cells, Pt.slots] at X41 l41 y41 z41 st41 hQ41
  subst l41 y41 z41
  obtain ⟨rfl, N41q, e41⟩ := hQ41
  have N41 := Fr.app N0 N41q
  obtain ⟨_, _, ⟨T42, L42, k42, n42⟩, -, X42, ⟨Lc42, hQ42, l42, y42, z42⟩, st42⟩ := Jvm.LawKit.callS X41 hx (y := (⟨"java/lang/Math", "max", "(II)I"⟩ : MethodName)) hown (mvT hZ (hw _ (List.mem_of_getElem? (i := 1) rfl))) (mvT hZ (hw _ (List.mem_of_getElem? (i := 2) rfl))) (mvT hZ (hw _ (List.mem_of_getElem? (i := 3) rfl))) (mvT hZ (hw _ (List.mem_of_getElem? (i := 4) rfl))) (by decide) (backOf (W := 0) (rm1 l Z a0 hw [] (1 : Int32) (p1 &&& (2147483647 : Int32)) h0 n0 (Nat.le_trans Z0 K0.1) ) hZ (hw _ (List.mem_of_getElem? (i := 4) rfl)) (hw _ (List.mem_of_getElem? (i := 3) rfl)) (by decide) (by decide)) (g := (mkF m 14 #[.val (.int p0), .val (.int p1), .val (.int p2), .val (.int (own_f_rm1 (1 : Int32) (p0 &&& (2147483647 : Int32)))), .unset, .unset, .unset, .unset, .unset, .unset, .unset, .unset, .unset, .unset, .unset] [(.int (p1 &&& (2147483647 : Int32))), (.int (1 : Int32))])) rfl (by rw [hml]; rfl) (argsL := [(.int (1 : Int32)), (.int (p1 &&& (2147483647 : Int32)))]) (rest := []) (lenOf own_pd0 rfl) rfl (by show 2 * 0 + _ ≤ _; exact Nat.le_of_eq rfl) (hb hby at_14) (fun _ _ => ⟨rfl, e41, (by decide : 0 + 0 ≤ _), (by decide : 0 + 0 ≤ _)⟩)
  dsimp only [Pt.U, Pt.locs, Pt.cells, Pt.slots] at X42 l42 y42 z42 st42 hQ42
  subst l42 y42 z42
  obtain ⟨rfl, N42q, e42⟩ := hQ42
  have N42 := Fr.app N41 N42q
  obtain ⟨T43, h43, X43, e43, E43, A43, D43, -, st43⟩ := newO X42 hx hZ hown (hw _ (List.mem_of_getElem? (i := 5) rfl)) (hw _ (List.mem_of_getElem? (i := 6) rfl)) (hw _ (List.mem_of_getElem? (i := 7) rfl)) e42 (g := (mkF m 25 #[.val (.int p0), .val (.int p1), .val (.int p2), .val (.int (own_f_rm1 (1 : Int32) (p0 &&& (2147483647 : Int32)))), .val (.int (own_f_rm1 (1 : Int32) (p1 &&& (2147483647 : Int32)))), .val (.int (p2 &&& (2147483647 : Int32))), .unset, .unset, .unset, .unset, .unset, .unset, .unset, .unset, .unset] [])) rfl (hb hby at_25) (by decide) (by decide)
  obtain ⟨b43, g43⟩ : ∃ z, z = h0.size := ⟨_, rfl⟩
  rw [← g43] at A43 D43 st43
  have gg_b43 : n0 ≤ b43 := Nat.le_trans (Nat.le_trans Z0 K0.1) (Nat.le_of_eq g43.symm)
  have sz_b43 : h0.size ≤ b43 := Nat.le_trans K0.1 (Nat.le_of_eq g43.symm)
  have K43 := K0.ext E43
  have F43_width : Fld Z h43 b43 "com/example/dalby/dalby/mesh/Mesh" "width" "I" (.int (0 : Int32)) := D43 (Or.inr (hw _ (List.mem_of_getElem? (i := 15) rfl))) (ty := .int) (by decide)
  have F43_height : Fld Z h43 b43 "com/example/dalby/dalby/mesh/Mesh" "height" "I" (.int (0 : Int32)) := D43 (Or.inr (hw _ (List.mem_of_getElem? (i := 17) rfl))) (ty := .int) (by decide)
  have F43_luts : Fld Z h43 b43 "com/example/dalby/dalby/mesh/Mesh" "luts" "I" (.int (0 : Int32)) := D43 (Or.inr (hw _ (List.mem_of_getElem? (i := 19) rfl))) (ty := .int) (by decide)
  have F43_lutInputs : Fld Z h43 b43 "com/example/dalby/dalby/mesh/Mesh" "lutInputs" "I" (.int (0 : Int32)) := D43 (Or.inr (hw _ (List.mem_of_getElem? (i := 21) rfl))) (ty := .int) (by decide)
  have F43_pins : Fld Z h43 b43 "com/example/dalby/dalby/mesh/Mesh" "pins" "I" (.int (0 : Int32)) := D43 (Or.inr (hw _ (List.mem_of_getElem? (i := 23) rfl))) (ty := .int) (by decide)
  obtain ⟨_, _, ⟨T44, L44, k44, n44⟩, -, X44, ⟨Lc44, hQ44, l44, y44, z44⟩, st44⟩ := X43.specialBack hx (y := (⟨"com/example/dalby/dalby/mesh/Mesh", "<init>", "(IIIII)V"⟩ : MethodName)) rfl hown (mvT hZ (hw _ (List.mem_of_getElem? (i := 8) rfl))) (mvT hZ (hw _ (List.mem_of_getElem? (i := 9) rfl))) (mvT hZ (hw _ (List.mem_of_getElem? (i := 10) rfl))) (by decide) (backOf (W := 1) (rm2 l Z a0 hw [] b43 (own_f_rm1 (1 : Int32) (p0 &&& (2147483647 : Int32))) (own_f_rm1 (1 : Int32) (p1 &&& (2147483647 : Int32))) (1 : Int32) (1 : Int32) (p2 &&& (2147483647 : Int32)) h43 n0 (Nat.le_trans Z0 K43.1) A43 F43_width F43_height F43_luts F43_lutInputs F43_pins gg_b43 (own_w' p0) (own_w' p1) (by decide) (by decide) (own_p' p2)) hZ (hw _ (List.mem_of_getElem? (i := 10) rfl)) (hw _ (List.mem_of_getElem? (i := 7) rfl)) (by decide) (by decide)) (g := (mkF m 36 #[.val (.int p0), .val (.int p1), .val (.int p2), .val (.int (own_f_rm1 (1 : Int32) (p0 &&& (2147483647 : Int32)))), .val (.int (own_f_rm1 (1 : Int32) (p1 &&& (2147483647 : Int32)))), .val (.int (p2 &&& (2147483647 : Int32))), .unset, .unset, .unset, .unset, .unset, .unset, .unset, .unset, .unset] [(.int (p2 &&& (2147483647 : Int32))), (.int (1 : Int32)), (.int (1 : Int32)), (.int (own_f_rm1 (1 : Int32) (p1 &&& (2147483647 : Int32)))), (.int (own_f_rm1 (1 : Int32) (p0 &&& (2147483647 : Int32)))), (.ref b43), (.ref b43)])) rfl (by rw [hml]; rfl) (Steps.refl _) (a := b43) (argsL := [(.int (own_f_rm1 (1 : Int32) (p0 &&& (2147483647 : Int32)))), (.int (own_f_rm1 (1 : Int32) (p1 &&& (2147483647 : Int32)))), (.int (1 : Int32)), (.int (1 : Int32)), (.int (p2 &&& (2147483647 : Int32)))]) (rest := [(.ref b43)]) (lenOf own_pd1 rfl) rfl (by show 2 * 0 + _ ≤ _; exact Nat.le_of_eq rfl) (hb hby at_36) (fun _ _ => ⟨rfl, e43, (by decide : 1 + 0 ≤ _), (by decide : 5 + 0 ≤ _)⟩)
  dsimp only [Pt.U, Pt.locs, Pt.cells, Pt.slots] at X44 l44 y44 z44 st44 hQ44
  subst l44 y44 z44
  obtain ⟨rfl, N44q, i44_2, i44_3, i44_4, i44_5, i44_6⟩ := hQ44
  have N44 := Fr.app N42 N44q
  have K44 := K43.trans i44_2 (allS (Or.inr sz_b43) all0)
  obtain ⟨cq45, kq45, q45a, q45b, q45c⟩ := isOf hZ rfl i44_3
  obtain ⟨_, _, ⟨T45, L45, k45, n45⟩, -, X45, ⟨Lc45, hQ45, l45, y45, z45⟩, st45⟩ := X44.virtualBack hx (y := (⟨"com/example/dalby/dalby/mesh/Mesh", "edgePins", "()J"⟩ : MethodName)) (z := (⟨"com/example/dalby/dalby/mesh/Mesh", "edgePins", "()J"⟩ : MethodName)) hown (mvT hZ (hw _ (List.mem_of_getElem? (i := 24) rfl))) (mvT hZ (hw _ (List.mem_of_getElem? (i := 25) rfl))) (notFace_of_selects (args := #[]) (mvT hZ (hw _ (List.mem_of_getElem? (i := 27) rfl)))) (mvT hZ (hw _ (List.mem_of_getElem? (i := 27) rfl))) (mvT hZ (hw _ (List.mem_of_getElem? (i := 26) rfl))) (by decide) (backOf (W := 0) (rm3 l Z a0 hw [] b43 (own_f_rm1 (1 : Int32) (p0 &&& (2147483647 : Int32))) (own_f_rm1 (1 : Int32) (p1 &&& (2147483647 : Int32))) (p2 &&& (2147483647 : Int32)) T44.heap n0 (Nat.le_trans Z0 K44.1) i44_4 i44_5 i44_6) hZ (hw _ (List.mem_of_getElem? (i := 28) rfl)) (hw _ (List.mem_of_getElem? (i := 7) rfl)) (by decide) (by decide)) q45a q45c (g := (mkF m 43 #[.val (.int p0), .val (.int p1), .val (.int p2), .val (.int (own_f_rm1 (1 : Int32) (p0 &&& (2147483647 : Int32)))), .val (.int (own_f_rm1 (1 : Int32) (p1 &&& (2147483647 : Int32)))), .val (.int (p2 &&& (2147483647 : Int32))), .val (.ref b43), .unset, .unset, .unset, .unset, .unset, .unset, .unset, .unset] [(.ref b43)])) rfl (by rw [hml]; rfl) (Steps.refl _) (argsL := []) (rest := []) (lenOf own_pd2 rfl) rfl (by show 2 * 0 + _ ≤ _; exact Nat.le_of_eq rfl) (hb hby at_43) (fun _ _ => ⟨rfl, rfl, (by decide : 1 + 0 ≤ _), (by decide : 5 + 0 ≤ _)⟩)
  dsimp only [Pt.U, Pt.locs, Pt.cells, Pt.slots] at X45 l45 y45 z45 st45 hQ45
  subst l45 y45 z45
  obtain ⟨rfl, N45q, e45⟩ := hQ45
  have N45 := Fr.app N44 N45q
  have pre46 : ∀ t, Steps p.tables e below (T45.setTop (mkF m 72 #[.val (.int p0), .val (.int p1), .val (.int p2), .val (.int (own_f_rm1 (1 : Int32) (p0 &&& (2147483647 : Int32)))), .val (.int (own_f_rm1 (1 : Int32) (p1 &&& (2147483647 : Int32)))), .val (.int (p2 &&& (2147483647 : Int32))), .val (.ref b43), .val (.long (own_f_rm3 (own_f_rm1 (1 : Int32) (p0 &&& (2147483647 : Int32))) (own_f_rm1 (1 : Int32) (p1 &&& (2147483647 : Int32))) (p2 &&& (2147483647 : Int32)))), .second, .val (.long ((2 : Int64) * (((own_f_rm1 (1 : Int32) (p0 &&& (2147483647 : Int32))).toInt64) + ((own_f_rm1 (1 : Int32) (p1 &&& (2147483647 : Int32))).toInt64)))), .second, .val (.long (((2 : Int64) * (((own_f_rm1 (1 : Int32) (p0 &&& (2147483647 : Int32))).toInt64) + ((own_f_rm1 (1 : Int32) (p1 &&& (2147483647 : Int32))).toInt64))) * ((p2 &&& (2147483647 : Int32)).toInt64))), .second, .unset, .unset] [(.int (lcmpW (((2 : Int64) * (((own_f_rm1 (1 : Int32) (p0 &&& (2147483647 : Int32))).toInt64) + ((own_f_rm1 (1 : Int32) (p1 &&& (2147483647 : Int32))).toInt64))) * ((p2 &&& (2147483647 : Int32)).toInt64)) (0 : Int64)))])) t → Steps p.tables e below (s₁.setTop (entryFrame m #[(.int p0), (.int p1), (.int p2)] maxLocals)) t := fun t k => by
    refine pre0 _ ?_
    show Steps p.tables e below (s₁.setTop (mkF m 0 #[.val (.int p0), .val (.int p1), .val (.int p2), .unset, .unset, .unset, .unset, .unset, .unset, .unset, .unset, .unset, .unset, .unset, .unset] [])) _
    refine XS.iconst X0.here hx rfl (hb hby at_0) ?_
    show Steps p.tables e below (s₁.setTop (mkF m 1 #[.val (.int p0), .val (.int p1), .val (.int p2), .unset, .unset, .unset, .unset, .unset, .unset, .unset, .unset, .unset, .unset, .unset, .unset] [(.int (1 : Int32))])) _
    refine XS.iloadN X0.here hx rfl (hb hby at_1) rfl ?_
    show Steps p.tables e below (s₁.setTop (mkF m 2 #[.val (.int p0), .val (.int p1), .val (.int p2), .unset, .unset, .unset, .unset, .unset, .unset, .unset, .unset, .unset, .unset, .unset, .unset] [(.int p0), (.int (1 : Int32))])) _
    refine X0.ldcInt hx hown (mvT hZ (hw _ (List.mem_of_getElem? (i := 0) rfl))) (g := (mkF m 2 #[.val (.int p0), .val (.int p1), .val (.int p2), .unset, .unset, .unset, .unset, .unset, .unset, .unset, .unset, .unset, .unset, .unset, .unset] [(.int p0), (.int (1 : Int32))])) rfl (hb hby at_2) _ ?_
    show Steps p.tables e below (s₁.setTop (mkF m 4 #[.val (.int p0), .val (.int p1), .val (.int p2), .unset, .unset, .unset, .unset, .unset, .unset, .unset, .unset, .unset, .unset, .unset, .unset] [(.int (2147483647 : Int32)), (.int p0), (.int (1 : Int32))])) _
    refine XS.iand X0.here hx rfl (hb hby at_4) rfl ?_
    show Steps p.tables e below (s₁.setTop (mkF m 5 #[.val (.int p0), .val (.int p1), .val (.int p2), .unset, .unset, .unset, .unset, .unset, .unset, .unset, .unset, .unset, .unset, .unset, .unset] [(.int (p0 &&& (2147483647 : Int32))), (.int (1 : Int32))])) _
    refine st41 _ ?_
    show Steps p.tables e below (T41.setTop (mkF m 8 #[.val (.int p0), .val (.int p1), .val (.int p2), .unset, .unset, .unset, .unset, .unset, .unset, .unset, .unset, .unset, .unset, .unset, .unset] [(.int (own_f_rm1 (1 : Int32) (p0 &&& (2147483647 : Int32))))])) _
    refine XS.istoreN X41.here hx rfl (hb hby at_8) rfl (l' := #[.val (.int p0), .val (.int p1), .val (.int p2), .val (.int (own_f_rm1 (1 : Int32) (p0 &&& (2147483647 : Int32)))), .unset, .unset, .unset, .unset, .unset, .unset, .unset, .unset, .unset, .unset, .unset]) rfl ?_
    show Steps p.tables e below (T41.setTop (mkF m 9 #[.val (.int p0), .val (.int p1), .val (.int p2), .val (.int (own_f_rm1 (1 : Int32) (p0 &&& (2147483647 : Int32)))), .unset, .unset, .unset, .unset, .unset, .unset, .unset, .unset, .unset, .unset, .unset] [])) _
    refine XS.iconst X41.here hx rfl (hb hby at_9) ?_
    show Steps p.tables e below (T41.setTop (mkF m 10 #[.val (.int p0), .val (.int p1), .val (.int p2), .val (.int (own_f_rm1 (1 : Int32) (p0 &&& (2147483647 : Int32)))), .unset, .unset, .unset, .unset, .unset, .unset, .unset, .unset, .unset, .unset, .unset] [(.int (1 : Int32))])) _
    refine XS.iloadN X41.here hx rfl (hb hby at_10) rfl ?_
    show Steps p.tables e below (T41.setTop (mkF m 11 #[.val (.int p0), .val (.int p1), .val (.int p2), .val (.int (own_f_rm1 (1 : Int32) (p0 &&& (2147483647 : Int32)))), .unset, .unset, .unset, .unset, .unset, .unset, .unset, .unset, .unset, .unset, .unset] [(.int p1), (.int (1 : Int32))])) _
    refine X41.ldcInt hx hown (mvT hZ (hw _ (List.mem_of_getElem? (i := 0) rfl))) (g := (mkF m 11 #[.val (.int p0), .val (.int p1), .val (.int p2), .val (.int (own_f_rm1 (1 : Int32) (p0 &&& (2147483647 : Int32)))), .unset, .unset, .unset, .unset, .unset, .unset, .unset, .unset, .unset, .unset, .unset] [(.int p1), (.int (1 : Int32))])) rfl (hb hby at_11) _ ?_
    show Steps p.tables e below (T41.setTop (mkF m 13 #[.val (.int p0), .val (.int p1), .val (.int p2), .val (.int (own_f_rm1 (1 : Int32) (p0 &&& (2147483647 : Int32)))), .unset, .unset, .unset, .unset, .unset, .unset, .unset, .unset, .unset, .unset, .unset] [(.int (2147483647 : Int32)), (.int p1), (.int (1 : Int32))])) _
    refine XS.iand X41.here hx rfl (hb hby at_13) rfl ?_
    show Steps p.tables e below (T41.setTop (mkF m 14 #[.val (.int p0), .val (.int p1), .val (.int p2), .val (.int (own_f_rm1 (1 : Int32) (p0 &&& (2147483647 : Int32)))), .unset, .unset, .unset, .unset, .unset, .unset, .unset, .unset, .unset, .unset, .unset] [(.int (p1 &&& (2147483647 : Int32))), (.int (1 : Int32))])) _
    refine st42 _ ?_
    show Steps p.tables e below (T42.setTop (mkF m 17 #[.val (.int p0), .val (.int p1), .val (.int p2), .val (.int (own_f_rm1 (1 : Int32) (p0 &&& (2147483647 : Int32)))), .unset, .unset, .unset, .unset, .unset, .unset, .unset, .unset, .unset, .unset, .unset] [(.int (own_f_rm1 (1 : Int32) (p1 &&& (2147483647 : Int32))))])) _
    refine XS.istore X42.here hx rfl (hb hby at_17) rfl (l' := #[.val (.int p0), .val (.int p1), .val (.int p2), .val (.int (own_f_rm1 (1 : Int32) (p0 &&& (2147483647 : Int32)))), .val (.int (own_f_rm1 (1 : Int32) (p1 &&& (2147483647 : Int32)))), .unset, .unset, .unset, .unset, .unset, .unset, .unset, .unset, .unset, .unset]) rfl ?_
    show Steps p.tables e below (T42.setTop (mkF m 19 #[.val (.int p0), .val (.int p1), .val (.int p2), .val (.int (own_f_rm1 (1 : Int32) (p0 &&& (2147483647 : Int32)))), .val (.int (own_f_rm1 (1 : Int32) (p1 &&& (2147483647 : Int32)))), .unset, .unset, .unset, .unset, .unset, .unset, .unset, .unset, .unset, .unset] [])) _
    refine XS.iloadN X42.here hx rfl (hb hby at_19) rfl ?_
    show Steps p.tables e below (T42.setTop (mkF m 20 #[.val (.int p0), .val (.int p1), .val (.int p2), .val (.int (own_f_rm1 (1 : Int32) (p0 &&& (2147483647 : Int32)))), .val (.int (own_f_rm1 (1 : Int32) (p1 &&& (2147483647 : Int32)))), .unset, .unset, .unset, .unset, .unset, .unset, .unset, .unset, .unset, .unset] [(.int p2)])) _
    refine X42.ldcInt hx hown (mvT hZ (hw _ (List.mem_of_getElem? (i := 0) rfl))) (g := (mkF m 20 #[.val (.int p0), .val (.int p1), .val (.int p2), .val (.int (own_f_rm1 (1 : Int32) (p0 &&& (2147483647 : Int32)))), .val (.int (own_f_rm1 (1 : Int32) (p1 &&& (2147483647 : Int32)))), .unset, .unset, .unset, .unset, .unset, .unset, .unset, .unset, .unset, .unset] [(.int p2)])) rfl (hb hby at_20) _ ?_
    show Steps p.tables e below (T42.setTop (mkF m 22 #[.val (.int p0), .val (.int p1), .val (.int p2), .val (.int (own_f_rm1 (1 : Int32) (p0 &&& (2147483647 : Int32)))), .val (.int (own_f_rm1 (1 : Int32) (p1 &&& (2147483647 : Int32)))), .unset, .unset, .unset, .unset, .unset, .unset, .unset, .unset, .unset, .unset] [(.int (2147483647 : Int32)), (.int p2)])) _
    refine XS.iand X42.here hx rfl (hb hby at_22) rfl ?_
    show Steps p.tables e below (T42.setTop (mkF m 23 #[.val (.int p0), .val (.int p1), .val (.int p2), .val (.int (own_f_rm1 (1 : Int32) (p0 &&& (2147483647 : Int32)))), .val (.int (own_f_rm1 (1 : Int32) (p1 &&& (2147483647 : Int32)))), .unset, .unset, .unset, .unset, .unset, .unset, .unset, .unset, .unset, .unset] [(.int (p2 &&& (2147483647 : Int32)))])) _
    refine XS.istore X42.here hx rfl (hb hby at_23) rfl (l' := #[.val (.int p0), .val (.int p1), .val (.int p2), .val (.int (own_f_rm1 (1 : Int32) (p0 &&& (2147483647 : Int32)))), .val (.int (own_f_rm1 (1 : Int32) (p1 &&& (2147483647 : Int32)))), .val (.int (p2 &&& (2147483647 : Int32))), .unset, .unset, .unset, .unset, .unset, .unset, .unset, .unset, .unset]) rfl ?_
    show Steps p.tables e below (T42.setTop (mkF m 25 #[.val (.int p0), .val (.int p1), .val (.int p2), .val (.int (own_f_rm1 (1 : Int32) (p0 &&& (2147483647 : Int32)))), .val (.int (own_f_rm1 (1 : Int32) (p1 &&& (2147483647 : Int32)))), .val (.int (p2 &&& (2147483647 : Int32))), .unset, .unset, .unset, .unset, .unset, .unset, .unset, .unset, .unset] [])) _
    refine st43 _ ?_
    show Steps p.tables e below (T43.setTop (mkF m 28 #[.val (.int p0), .val (.int p1), .val (.int p2), .val (.int (own_f_rm1 (1 : Int32) (p0 &&& (2147483647 : Int32)))), .val (.int (own_f_rm1 (1 : Int32) (p1 &&& (2147483647 : Int32)))), .val (.int (p2 &&& (2147483647 : Int32))), .unset, .unset, .unset, .unset, .unset, .unset, .unset, .unset, .unset] [(.ref b43)])) _
    refine XS.dup X43.here hx rfl (hb hby at_28) rfl rfl ?_
    show Steps p.tables e below (T43.setTop (mkF m 29 #[.val (.int p0), .val (.int p1), .val (.int p2), .val (.int (own_f_rm1 (1 : Int32) (p0 &&& (2147483647 : Int32)))), .val (.int (own_f_rm1 (1 : Int32) (p1 &&& (2147483647 : Int32)))), .val (.int (p2 &&& (2147483647 : Int32))), .unset, .unset, .unset, .unset, .unset, .unset, .unset, .unset, .unset] [(.ref b43), (.ref b43)])) _
    refine XS.iloadN X43.here hx rfl (hb hby at_29) rfl ?_
    show Steps p.tables e below (T43.setTop (mkF m 30 #[.val (.int p0), .val (.int p1), .val (.int p2), .val (.int (own_f_rm1 (1 : Int32) (p0 &&& (2147483647 : Int32)))), .val (.int (own_f_rm1 (1 : Int32) (p1 &&& (2147483647 : Int32)))), .val (.int (p2 &&& (2147483647 : Int32))), .unset, .unset, .unset, .unset, .unset, .unset, .unset, .unset, .unset] [(.int (own_f_rm1 (1 : Int32) (p0 &&& (2147483647 : Int32)))), (.ref b43), (.ref b43)])) _
    refine XS.iload X43.here hx rfl (hb hby at_30) rfl ?_
    show Steps p.tables e below (T43.setTop (mkF m 32 #[.val (.int p0), .val (.int p1), .val (.int p2), .val (.int (own_f_rm1 (1 : Int32) (p0 &&& (2147483647 : Int32)))), .val (.int (own_f_rm1 (1 : Int32) (p1 &&& (2147483647 : Int32)))), .val (.int (p2 &&& (2147483647 : Int32))), .unset, .unset, .unset, .unset, .unset, .unset, .unset, .unset, .unset] [(.int (own_f_rm1 (1 : Int32) (p1 &&& (2147483647 : Int32)))), (.int (own_f_rm1 (1 : Int32) (p0 &&& (2147483647 : Int32)))), (.ref b43), (.ref b43)])) _
    refine XS.iconst X43.here hx rfl (hb hby at_32) ?_
    show Steps p.tables e below (T43.setTop (mkF m 33 #[.val (.int p0), .val (.int p1), .val (.int p2), .val (.int (own_f_rm1 (1 : Int32) (p0 &&& (2147483647 : Int32)))), .val (.int (own_f_rm1 (1 : Int32) (p1 &&& (2147483647 : Int32)))), .val (.int (p2 &&& (2147483647 : Int32))), .unset, .unset, .unset, .unset, .unset, .unset, .unset, .unset, .unset] [(.int (1 : Int32)), (.int (own_f_rm1 (1 : Int32) (p1 &&& (2147483647 : Int32)))), (.int (own_f_rm1 (1 : Int32) (p0 &&& (2147483647 : Int32)))), (.ref b43), (.ref b43)])) _
    refine XS.iconst X43.here hx rfl (hb hby at_33) ?_
    show Steps p.tables e below (T43.setTop (mkF m 34 #[.val (.int p0), .val (.int p1), .val (.int p2), .val (.int (own_f_rm1 (1 : Int32) (p0 &&& (2147483647 : Int32)))), .val (.int (own_f_rm1 (1 : Int32) (p1 &&& (2147483647 : Int32)))), .val (.int (p2 &&& (2147483647 : Int32))), .unset, .unset, .unset, .unset, .unset, .unset, .unset, .unset, .unset] [(.int (1 : Int32)), (.int (1 : Int32)), (.int (own_f_rm1 (1 : Int32) (p1 &&& (2147483647 : Int32)))), (.int (own_f_rm1 (1 : Int32) (p0 &&& (2147483647 : Int32)))), (.ref b43), (.ref b43)])) _
    refine XS.iload X43.here hx rfl (hb hby at_34) rfl ?_
    show Steps p.tables e below (T43.setTop (mkF m 36 #[.val (.int p0), .val (.int p1), .val (.int p2), .val (.int (own_f_rm1 (1 : Int32) (p0 &&& (2147483647 : Int32)))), .val (.int (own_f_rm1 (1 : Int32) (p1 &&& (2147483647 : Int32)))), .val (.int (p2 &&& (2147483647 : Int32))), .unset, .unset, .unset, .unset, .unset, .unset, .unset, .unset, .unset] [(.int (p2 &&& (2147483647 : Int32))), (.int (1 : Int32)), (.int (1 : Int32)), (.int (own_f_rm1 (1 : Int32) (p1 &&& (2147483647 : Int32)))), (.int (own_f_rm1 (1 : Int32) (p0 &&& (2147483647 : Int32)))), (.ref b43), (.ref b43)])) _
    refine st44.trans ?_
    show Steps p.tables e below (T44.setTop (mkF m 39 #[.val (.int p0), .val (.int p1), .val (.int p2), .val (.int (own_f_rm1 (1 : Int32) (p0 &&& (2147483647 : Int32)))), .val (.int (own_f_rm1 (1 : Int32) (p1 &&& (2147483647 : Int32)))), .val (.int (p2 &&& (2147483647 : Int32))), .unset, .unset, .unset, .unset, .unset, .unset, .unset, .unset, .unset] [(.ref b43)])) _
    refine XS.astore X44.here hx rfl (hb hby at_39) rfl rfl (l' := #[.val (.int p0), .val (.int p1), .val (.int p2), .val (.int (own_f_rm1 (1 : Int32) (p0 &&& (2147483647 : Int32)))), .val (.int (own_f_rm1 (1 : Int32) (p1 &&& (2147483647 : Int32)))), .val (.int (p2 &&& (2147483647 : Int32))), .val (.ref b43), .unset, .unset, .unset, .unset, .unset, .unset, .unset, .unset]) rfl ?_
    show Steps p.tables e below (T44.setTop (mkF m 41 #[.val (.int p0), .val (.int p1), .val (.int p2), .val (.int (own_f_rm1 (1 : Int32) (p0 &&& (2147483647 : Int32)))), .val (.int (own_f_rm1 (1 : Int32) (p1 &&& (2147483647 : Int32)))), .val (.int (p2 &&& (2147483647 : Int32))), .val (.ref b43), .unset, .unset, .unset, .unset, .unset, .unset, .unset, .unset] [])) _
    refine XS.aload X44.here hx rfl (hb hby at_41) rfl rfl ?_
    show Steps p.tables e below (T44.setTop (mkF m 43 #[.val (.int p0), .val (.int p1), .val (.int p2), .val (.int (own_f_rm1 (1 : Int32) (p0 &&& (2147483647 : Int32)))), .val (.int (own_f_rm1 (1 : Int32) (p1 &&& (2147483647 : Int32)))), .val (.int (p2 &&& (2147483647 : Int32))), .val (.ref b43), .unset, .unset, .unset, .unset, .unset, .unset, .unset, .unset] [(.ref b43)])) _
    refine st45.trans ?_
    show Steps p.tables e below (T45.setTop (mkF m 46 #[.val (.int p0), .val (.int p1), .val (.int p2), .val (.int (own_f_rm1 (1 : Int32) (p0 &&& (2147483647 : Int32)))), .val (.int (own_f_rm1 (1 : Int32) (p1 &&& (2147483647 : Int32)))), .val (.int (p2 &&& (2147483647 : Int32))), .val (.ref b43), .unset, .unset, .unset, .unset, .unset, .unset, .unset, .unset] [(.long (own_f_rm3 (own_f_rm1 (1 : Int32) (p0 &&& (2147483647 : Int32))) (own_f_rm1 (1 : Int32) (p1 &&& (2147483647 : Int32))) (p2 &&& (2147483647 : Int32))))])) _
    refine XS.lstore X45.here hx rfl (hb hby at_46) rfl (l' := #[.val (.int p0), .val (.int p1), .val (.int p2), .val (.int (own_f_rm1 (1 : Int32) (p0 &&& (2147483647 : Int32)))), .val (.int (own_f_rm1 (1 : Int32) (p1 &&& (2147483647 : Int32)))), .val (.int (p2 &&& (2147483647 : Int32))), .val (.ref b43), .val (.long (own_f_rm3 (own_f_rm1 (1 : Int32) (p0 &&& (2147483647 : Int32))) (own_f_rm1 (1 : Int32) (p1 &&& (2147483647 : Int32))) (p2 &&& (2147483647 : Int32)))), .second, .unset, .unset, .unset, .unset, .unset, .unset]) rfl ?_
    show Steps p.tables e below (T45.setTop (mkF m 48 #[.val (.int p0), .val (.int p1), .val (.int p2), .val (.int (own_f_rm1 (1 : Int32) (p0 &&& (2147483647 : Int32)))), .val (.int (own_f_rm1 (1 : Int32) (p1 &&& (2147483647 : Int32)))), .val (.int (p2 &&& (2147483647 : Int32))), .val (.ref b43), .val (.long (own_f_rm3 (own_f_rm1 (1 : Int32) (p0 &&& (2147483647 : Int32))) (own_f_rm1 (1 : Int32) (p1 &&& (2147483647 : Int32))) (p2 &&& (2147483647 : Int32)))), .second, .unset, .unset, .unset, .unset, .unset, .unset] [])) _
    refine X45.ldc2Long hx hown (mvT hZ (hw _ (List.mem_of_getElem? (i := 31) rfl))) (g := (mkF m 48 #[.val (.int p0), .val (.int p1), .val (.int p2), .val (.int (own_f_rm1 (1 : Int32) (p0 &&& (2147483647 : Int32)))), .val (.int (own_f_rm1 (1 : Int32) (p1 &&& (2147483647 : Int32)))), .val (.int (p2 &&& (2147483647 : Int32))), .val (.ref b43), .val (.long (own_f_rm3 (own_f_rm1 (1 : Int32) (p0 &&& (2147483647 : Int32))) (own_f_rm1 (1 : Int32) (p1 &&& (2147483647 : Int32))) (p2 &&& (2147483647 : Int32)))), .second, .unset, .unset, .unset, .unset, .unset, .unset] [])) rfl (hb hby at_48) _ ?_
    show Steps p.tables e below (T45.setTop (mkF m 51 #[.val (.int p0), .val (.int p1), .val (.int p2), .val (.int (own_f_rm1 (1 : Int32) (p0 &&& (2147483647 : Int32)))), .val (.int (own_f_rm1 (1 : Int32) (p1 &&& (2147483647 : Int32)))), .val (.int (p2 &&& (2147483647 : Int32))), .val (.ref b43), .val (.long (own_f_rm3 (own_f_rm1 (1 : Int32) (p0 &&& (2147483647 : Int32))) (own_f_rm1 (1 : Int32) (p1 &&& (2147483647 : Int32))) (p2 &&& (2147483647 : Int32)))), .second, .unset, .unset, .unset, .unset, .unset, .unset] [(.long (2 : Int64))])) _
    refine XS.iloadN X45.here hx rfl (hb hby at_51) rfl ?_
    show Steps p.tables e below (T45.setTop (mkF m 52 #[.val (.int p0), .val (.int p1), .val (.int p2), .val (.int (own_f_rm1 (1 : Int32) (p0 &&& (2147483647 : Int32)))), .val (.int (own_f_rm1 (1 : Int32) (p1 &&& (2147483647 : Int32)))), .val (.int (p2 &&& (2147483647 : Int32))), .val (.ref b43), .val (.long (own_f_rm3 (own_f_rm1 (1 : Int32) (p0 &&& (2147483647 : Int32))) (own_f_rm1 (1 : Int32) (p1 &&& (2147483647 : Int32))) (p2 &&& (2147483647 : Int32)))), .second, .unset, .unset, .unset, .unset, .unset, .unset] [(.int (own_f_rm1 (1 : Int32) (p0 &&& (2147483647 : Int32)))), (.long (2 : Int64))])) _
    refine XS.i2l X45.here hx rfl (hb hby at_52) rfl ?_
    show Steps p.tables e below (T45.setTop (mkF m 53 #[.val (.int p0), .val (.int p1), .val (.int p2), .val (.int (own_f_rm1 (1 : Int32) (p0 &&& (2147483647 : Int32)))), .val (.int (own_f_rm1 (1 : Int32) (p1 &&& (2147483647 : Int32)))), .val (.int (p2 &&& (2147483647 : Int32))), .val (.ref b43), .val (.long (own_f_rm3 (own_f_rm1 (1 : Int32) (p0 &&& (2147483647 : Int32))) (own_f_rm1 (1 : Int32) (p1 &&& (2147483647 : Int32))) (p2 &&& (2147483647 : Int32)))), .second, .unset, .unset, .unset, .unset, .unset, .unset] [(.long ((own_f_rm1 (1 : Int32) (p0 &&& (2147483647 : Int32))).toInt64)), (.long (2 : Int64))])) _
    refine XS.iload X45.here hx rfl (hb hby at_53) rfl ?_
    show Steps p.tables e below (T45.setTop (mkF m 55 #[.val (.int p0), .val (.int p1), .val (.int p2), .val (.int (own_f_rm1 (1 : Int32) (p0 &&& (2147483647 : Int32)))), .val (.int (own_f_rm1 (1 : Int32) (p1 &&& (2147483647 : Int32)))), .val (.int (p2 &&& (2147483647 : Int32))), .val (.ref b43), .val (.long (own_f_rm3 (own_f_rm1 (1 : Int32) (p0 &&& (2147483647 : Int32))) (own_f_rm1 (1 : Int32) (p1 &&& (2147483647 : Int32))) (p2 &&& (2147483647 : Int32)))), .second, .unset, .unset, .unset, .unset, .unset, .unset] [(.int (own_f_rm1 (1 : Int32) (p1 &&& (2147483647 : Int32)))), (.long ((own_f_rm1 (1 : Int32) (p0 &&& (2147483647 : Int32))).toInt64)), (.long (2 : Int64))])) _
    refine XS.i2l X45.here hx rfl (hb hby at_55) rfl ?_
    show Steps p.tables e below (T45.setTop (mkF m 56 #[.val (.int p0), .val (.int p1), .val (.int p2), .val (.int (own_f_rm1 (1 : Int32) (p0 &&& (2147483647 : Int32)))), .val (.int (own_f_rm1 (1 : Int32) (p1 &&& (2147483647 : Int32)))), .val (.int (p2 &&& (2147483647 : Int32))), .val (.ref b43), .val (.long (own_f_rm3 (own_f_rm1 (1 : Int32) (p0 &&& (2147483647 : Int32))) (own_f_rm1 (1 : Int32) (p1 &&& (2147483647 : Int32))) (p2 &&& (2147483647 : Int32)))), .second, .unset, .unset, .unset, .unset, .unset, .unset] [(.long ((own_f_rm1 (1 : Int32) (p1 &&& (2147483647 : Int32))).toInt64)), (.long ((own_f_rm1 (1 : Int32) (p0 &&& (2147483647 : Int32))).toInt64)), (.long (2 : Int64))])) _
    refine XS.ladd X45.here hx rfl (hb hby at_56) rfl ?_
    show Steps p.tables e below (T45.setTop (mkF m 57 #[.val (.int p0), .val (.int p1), .val (.int p2), .val (.int (own_f_rm1 (1 : Int32) (p0 &&& (2147483647 : Int32)))), .val (.int (own_f_rm1 (1 : Int32) (p1 &&& (2147483647 : Int32)))), .val (.int (p2 &&& (2147483647 : Int32))), .val (.ref b43), .val (.long (own_f_rm3 (own_f_rm1 (1 : Int32) (p0 &&& (2147483647 : Int32))) (own_f_rm1 (1 : Int32) (p1 &&& (2147483647 : Int32))) (p2 &&& (2147483647 : Int32)))), .second, .unset, .unset, .unset, .unset, .unset, .unset] [(.long (((own_f_rm1 (1 : Int32) (p0 &&& (2147483647 : Int32))).toInt64) + ((own_f_rm1 (1 : Int32) (p1 &&& (2147483647 : Int32))).toInt64))), (.long (2 : Int64))])) _
    refine XS.lmul X45.here hx rfl (hb hby at_57) rfl ?_
    show Steps p.tables e below (T45.setTop (mkF m 58 #[.val (.int p0), .val (.int p1), .val (.int p2), .val (.int (own_f_rm1 (1 : Int32) (p0 &&& (2147483647 : Int32)))), .val (.int (own_f_rm1 (1 : Int32) (p1 &&& (2147483647 : Int32)))), .val (.int (p2 &&& (2147483647 : Int32))), .val (.ref b43), .val (.long (own_f_rm3 (own_f_rm1 (1 : Int32) (p0 &&& (2147483647 : Int32))) (own_f_rm1 (1 : Int32) (p1 &&& (2147483647 : Int32))) (p2 &&& (2147483647 : Int32)))), .second, .unset, .unset, .unset, .unset, .unset, .unset] [(.long ((2 : Int64) * (((own_f_rm1 (1 : Int32) (p0 &&& (2147483647 : Int32))).toInt64) + ((own_f_rm1 (1 : Int32) (p1 &&& (2147483647 : Int32))).toInt64))))])) _
    refine XS.lstore X45.here hx rfl (hb hby at_58) rfl (l' := #[.val (.int p0), .val (.int p1), .val (.int p2), .val (.int (own_f_rm1 (1 : Int32) (p0 &&& (2147483647 : Int32)))), .val (.int (own_f_rm1 (1 : Int32) (p1 &&& (2147483647 : Int32)))), .val (.int (p2 &&& (2147483647 : Int32))), .val (.ref b43), .val (.long (own_f_rm3 (own_f_rm1 (1 : Int32) (p0 &&& (2147483647 : Int32))) (own_f_rm1 (1 : Int32) (p1 &&& (2147483647 : Int32))) (p2 &&& (2147483647 : Int32)))), .second, .val (.long ((2 : Int64) * (((own_f_rm1 (1 : Int32) (p0 &&& (2147483647 : Int32))).toInt64) + ((own_f_rm1 (1 : Int32) (p1 &&& (2147483647 : Int32))).toInt64)))), .second, .unset, .unset, .unset, .unset]) rfl ?_
    show Steps p.tables e below (T45.setTop (mkF m 60 #[.val (.int p0), .val (.int p1), .val (.int p2), .val (.int (own_f_rm1 (1 : Int32) (p0 &&& (2147483647 : Int32)))), .val (.int (own_f_rm1 (1 : Int32) (p1 &&& (2147483647 : Int32)))), .val (.int (p2 &&& (2147483647 : Int32))), .val (.ref b43), .val (.long (own_f_rm3 (own_f_rm1 (1 : Int32) (p0 &&& (2147483647 : Int32))) (own_f_rm1 (1 : Int32) (p1 &&& (2147483647 : Int32))) (p2 &&& (2147483647 : Int32)))), .second, .val (.long ((2 : Int64) * (((own_f_rm1 (1 : Int32) (p0 &&& (2147483647 : Int32))).toInt64) + ((own_f_rm1 (1 : Int32) (p1 &&& (2147483647 : Int32))).toInt64)))), .second, .unset, .unset, .unset, .unset] [])) _
    refine XS.lload X45.here hx rfl (hb hby at_60) rfl ?_
    show Steps p.tables e below (T45.setTop (mkF m 62 #[.val (.int p0), .val (.int p1), .val (.int p2), .val (.int (own_f_rm1 (1 : Int32) (p0 &&& (2147483647 : Int32)))), .val (.int (own_f_rm1 (1 : Int32) (p1 &&& (2147483647 : Int32)))), .val (.int (p2 &&& (2147483647 : Int32))), .val (.ref b43), .val (.long (own_f_rm3 (own_f_rm1 (1 : Int32) (p0 &&& (2147483647 : Int32))) (own_f_rm1 (1 : Int32) (p1 &&& (2147483647 : Int32))) (p2 &&& (2147483647 : Int32)))), .second, .val (.long ((2 : Int64) * (((own_f_rm1 (1 : Int32) (p0 &&& (2147483647 : Int32))).toInt64) + ((own_f_rm1 (1 : Int32) (p1 &&& (2147483647 : Int32))).toInt64)))), .second, .unset, .unset, .unset, .unset] [(.long ((2 : Int64) * (((own_f_rm1 (1 : Int32) (p0 &&& (2147483647 : Int32))).toInt64) + ((own_f_rm1 (1 : Int32) (p1 &&& (2147483647 : Int32))).toInt64))))])) _
    refine XS.iload X45.here hx rfl (hb hby at_62) rfl ?_
    show Steps p.tables e below (T45.setTop (mkF m 64 #[.val (.int p0), .val (.int p1), .val (.int p2), .val (.int (own_f_rm1 (1 : Int32) (p0 &&& (2147483647 : Int32)))), .val (.int (own_f_rm1 (1 : Int32) (p1 &&& (2147483647 : Int32)))), .val (.int (p2 &&& (2147483647 : Int32))), .val (.ref b43), .val (.long (own_f_rm3 (own_f_rm1 (1 : Int32) (p0 &&& (2147483647 : Int32))) (own_f_rm1 (1 : Int32) (p1 &&& (2147483647 : Int32))) (p2 &&& (2147483647 : Int32)))), .second, .val (.long ((2 : Int64) * (((own_f_rm1 (1 : Int32) (p0 &&& (2147483647 : Int32))).toInt64) + ((own_f_rm1 (1 : Int32) (p1 &&& (2147483647 : Int32))).toInt64)))), .second, .unset, .unset, .unset, .unset] [(.int (p2 &&& (2147483647 : Int32))), (.long ((2 : Int64) * (((own_f_rm1 (1 : Int32) (p0 &&& (2147483647 : Int32))).toInt64) + ((own_f_rm1 (1 : Int32) (p1 &&& (2147483647 : Int32))).toInt64))))])) _
    refine XS.i2l X45.here hx rfl (hb hby at_64) rfl ?_
    show Steps p.tables e below (T45.setTop (mkF m 65 #[.val (.int p0), .val (.int p1), .val (.int p2), .val (.int (own_f_rm1 (1 : Int32) (p0 &&& (2147483647 : Int32)))), .val (.int (own_f_rm1 (1 : Int32) (p1 &&& (2147483647 : Int32)))), .val (.int (p2 &&& (2147483647 : Int32))), .val (.ref b43), .val (.long (own_f_rm3 (own_f_rm1 (1 : Int32) (p0 &&& (2147483647 : Int32))) (own_f_rm1 (1 : Int32) (p1 &&& (2147483647 : Int32))) (p2 &&& (2147483647 : Int32)))), .second, .val (.long ((2 : Int64) * (((own_f_rm1 (1 : Int32) (p0 &&& (2147483647 : Int32))).toInt64) + ((own_f_rm1 (1 : Int32) (p1 &&& (2147483647 : Int32))).toInt64)))), .second, .unset, .unset, .unset, .unset] [(.long ((p2 &&& (2147483647 : Int32)).toInt64)), (.long ((2 : Int64) * (((own_f_rm1 (1 : Int32) (p0 &&& (2147483647 : Int32))).toInt64) + ((own_f_rm1 (1 : Int32) (p1 &&& (2147483647 : Int32))).toInt64))))])) _
    refine XS.lmul X45.here hx rfl (hb hby at_65) rfl ?_
    show Steps p.tables e below (T45.setTop (mkF m 66 #[.val (.int p0), .val (.int p1), .val (.int p2), .val (.int (own_f_rm1 (1 : Int32) (p0 &&& (2147483647 : Int32)))), .val (.int (own_f_rm1 (1 : Int32) (p1 &&& (2147483647 : Int32)))), .val (.int (p2 &&& (2147483647 : Int32))), .val (.ref b43), .val (.long (own_f_rm3 (own_f_rm1 (1 : Int32) (p0 &&& (2147483647 : Int32))) (own_f_rm1 (1 : Int32) (p1 &&& (2147483647 : Int32))) (p2 &&& (2147483647 : Int32)))), .second, .val (.long ((2 : Int64) * (((own_f_rm1 (1 : Int32) (p0 &&& (2147483647 : Int32))).toInt64) + ((own_f_rm1 (1 : Int32) (p1 &&& (2147483647 : Int32))).toInt64)))), .second, .unset, .unset, .unset, .unset] [(.long (((2 : Int64) * (((own_f_rm1 (1 : Int32) (p0 &&& (2147483647 : Int32))).toInt64) + ((own_f_rm1 (1 : Int32) (p1 &&& (2147483647 : Int32))).toInt64))) * ((p2 &&& (2147483647 : Int32)).toInt64)))])) _
    refine XS.lstore X45.here hx rfl (hb hby at_66) rfl (l' := #[.val (.int p0), .val (.int p1), .val (.int p2), .val (.int (own_f_rm1 (1 : Int32) (p0 &&& (2147483647 : Int32)))), .val (.int (own_f_rm1 (1 : Int32) (p1 &&& (2147483647 : Int32)))), .val (.int (p2 &&& (2147483647 : Int32))), .val (.ref b43), .val (.long (own_f_rm3 (own_f_rm1 (1 : Int32) (p0 &&& (2147483647 : Int32))) (own_f_rm1 (1 : Int32) (p1 &&& (2147483647 : Int32))) (p2 &&& (2147483647 : Int32)))), .second, .val (.long ((2 : Int64) * (((own_f_rm1 (1 : Int32) (p0 &&& (2147483647 : Int32))).toInt64) + ((own_f_rm1 (1 : Int32) (p1 &&& (2147483647 : Int32))).toInt64)))), .second, .val (.long (((2 : Int64) * (((own_f_rm1 (1 : Int32) (p0 &&& (2147483647 : Int32))).toInt64) + ((own_f_rm1 (1 : Int32) (p1 &&& (2147483647 : Int32))).toInt64))) * ((p2 &&& (2147483647 : Int32)).toInt64))), .second, .unset, .unset]) rfl ?_
    show Steps p.tables e below (T45.setTop (mkF m 68 #[.val (.int p0), .val (.int p1), .val (.int p2), .val (.int (own_f_rm1 (1 : Int32) (p0 &&& (2147483647 : Int32)))), .val (.int (own_f_rm1 (1 : Int32) (p1 &&& (2147483647 : Int32)))), .val (.int (p2 &&& (2147483647 : Int32))), .val (.ref b43), .val (.long (own_f_rm3 (own_f_rm1 (1 : Int32) (p0 &&& (2147483647 : Int32))) (own_f_rm1 (1 : Int32) (p1 &&& (2147483647 : Int32))) (p2 &&& (2147483647 : Int32)))), .second, .val (.long ((2 : Int64) * (((own_f_rm1 (1 : Int32) (p0 &&& (2147483647 : Int32))).toInt64) + ((own_f_rm1 (1 : Int32) (p1 &&& (2147483647 : Int32))).toInt64)))), .second, .val (.long (((2 : Int64) * (((own_f_rm1 (1 : Int32) (p0 &&& (2147483647 : Int32))).toInt64) + ((own_f_rm1 (1 : Int32) (p1 &&& (2147483647 : Int32))).toInt64))) * ((p2 &&& (2147483647 : Int32)).toInt64))), .second, .unset, .unset] [])) _
    refine XS.lload X45.here hx rfl (hb hby at_68) rfl ?_
    show Steps p.tables e below (T45.setTop (mkF m 70 #[.val (.int p0), .val (.int p1), .val (.int p2), .val (.int (own_f_rm1 (1 : Int32) (p0 &&& (2147483647 : Int32)))), .val (.int (own_f_rm1 (1 : Int32) (p1 &&& (2147483647 : Int32)))), .val (.int (p2 &&& (2147483647 : Int32))), .val (.ref b43), .val (.long (own_f_rm3 (own_f_rm1 (1 : Int32) (p0 &&& (2147483647 : Int32))) (own_f_rm1 (1 : Int32) (p1 &&& (2147483647 : Int32))) (p2 &&& (2147483647 : Int32)))), .second, .val (.long ((2 : Int64) * (((own_f_rm1 (1 : Int32) (p0 &&& (2147483647 : Int32))).toInt64) + ((own_f_rm1 (1 : Int32) (p1 &&& (2147483647 : Int32))).toInt64)))), .second, .val (.long (((2 : Int64) * (((own_f_rm1 (1 : Int32) (p0 &&& (2147483647 : Int32))).toInt64) + ((own_f_rm1 (1 : Int32) (p1 &&& (2147483647 : Int32))).toInt64))) * ((p2 &&& (2147483647 : Int32)).toInt64))), .second, .unset, .unset] [(.long (((2 : Int64) * (((own_f_rm1 (1 : Int32) (p0 &&& (2147483647 : Int32))).toInt64) + ((own_f_rm1 (1 : Int32) (p1 &&& (2147483647 : Int32))).toInt64))) * ((p2 &&& (2147483647 : Int32)).toInt64)))])) _
    refine XS.lconst X45.here hx rfl (hb hby at_70) ?_
    show Steps p.tables e below (T45.setTop (mkF m 71 #[.val (.int p0), .val (.int p1), .val (.int p2), .val (.int (own_f_rm1 (1 : Int32) (p0 &&& (2147483647 : Int32)))), .val (.int (own_f_rm1 (1 : Int32) (p1 &&& (2147483647 : Int32)))), .val (.int (p2 &&& (2147483647 : Int32))), .val (.ref b43), .val (.long (own_f_rm3 (own_f_rm1 (1 : Int32) (p0 &&& (2147483647 : Int32))) (own_f_rm1 (1 : Int32) (p1 &&& (2147483647 : Int32))) (p2 &&& (2147483647 : Int32)))), .second, .val (.long ((2 : Int64) * (((own_f_rm1 (1 : Int32) (p0 &&& (2147483647 : Int32))).toInt64) + ((own_f_rm1 (1 : Int32) (p1 &&& (2147483647 : Int32))).toInt64)))), .second, .val (.long (((2 : Int64) * (((own_f_rm1 (1 : Int32) (p0 &&& (2147483647 : Int32))).toInt64) + ((own_f_rm1 (1 : Int32) (p1 &&& (2147483647 : Int32))).toInt64))) * ((p2 &&& (2147483647 : Int32)).toInt64))), .second, .unset, .unset] [(.long (0 : Int64)), (.long (((2 : Int64) * (((own_f_rm1 (1 : Int32) (p0 &&& (2147483647 : Int32))).toInt64) + ((own_f_rm1 (1 : Int32) (p1 &&& (2147483647 : Int32))).toInt64))) * ((p2 &&& (2147483647 : Int32)).toInt64)))])) _
    refine XS.lcmp X45.here hx rfl (hb hby at_71) rfl ?_
    exact k
  by_cases hc72 : (((2 : Int64) * (((own_f_rm1 (1 : Int32) (p0 &&& (2147483647 : Int32))).toInt64) + ((own_f_rm1 (1 : Int32) (p1 &&& (2147483647 : Int32))).toInt64))) * ((p2 &&& (2147483647 : Int32)).toInt64)) < (0 : Int64)
  · have hc90_47 : (own_f_rm3 (own_f_rm1 (1 : Int32) (p0 &&& (2147483647 : Int32))) (own_f_rm1 (1 : Int32) (p1 &&& (2147483647 : Int32))) (p2 &&& (2147483647 : Int32))) = (9223372036854775807 : Int64) := by rw [own_core _ _ _ (own_w p0) (own_w p1) (own_p p2), if_pos hc72]
    obtain ⟨fs, hr, hrun, hended, hW, hsame⟩ := X45.leave (v := some (.int (1 : Int32))) (fun h => by rw [Bd.returns] at h; cases h)
    refine ⟨_, _, pre46 _ ?_, hrun, hended, _, _, rfl, ?_, ⟨_, rfl⟩, hW, hsame.mono (by decide) (by decide)⟩
    · show Steps p.tables e below (T45.setTop (mkF m 72 #[.val (.int p0), .val (.int p1), .val (.int p2), .val (.int (own_f_rm1 (1 : Int32) (p0 &&& (2147483647 : Int32)))), .val (.int (own_f_rm1 (1 : Int32) (p1 &&& (2147483647 : Int32)))), .val (.int (p2 &&& (2147483647 : Int32))), .val (.ref b43), .val (.long (own_f_rm3 (own_f_rm1 (1 : Int32) (p0 &&& (2147483647 : Int32))) (own_f_rm1 (1 : Int32) (p1 &&& (2147483647 : Int32))) (p2 &&& (2147483647 : Int32)))), .second, .val (.long ((2 : Int64) * (((own_f_rm1 (1 : Int32) (p0 &&& (2147483647 : Int32))).toInt64) + ((own_f_rm1 (1 : Int32) (p1 &&& (2147483647 : Int32))).toInt64)))), .second, .val (.long (((2 : Int64) * (((own_f_rm1 (1 : Int32) (p0 &&& (2147483647 : Int32))).toInt64) + ((own_f_rm1 (1 : Int32) (p1 &&& (2147483647 : Int32))).toInt64))) * ((p2 &&& (2147483647 : Int32)).toInt64))), .second, .unset, .unset] [(.int (lcmpW (((2 : Int64) * (((own_f_rm1 (1 : Int32) (p0 &&& (2147483647 : Int32))).toInt64) + ((own_f_rm1 (1 : Int32) (p1 &&& (2147483647 : Int32))).toInt64))) * ((p2 &&& (2147483647 : Int32)).toInt64)) (0 : Int64)))])) _
      refine XS.ifYes X45.here hx rfl (pc0 := 72) (pc' := 80) rfl (hb hby at_72) rfl ((if0 _ _).trans (tlt ((lw_lt _ _).mpr hc72)).1) (by decide) (by decide) ?_
      show Steps p.tables e below (T45.setTop (mkF m 80 #[.val (.int p0), .val (.int p1), .val (.int p2), .val (.int (own_f_rm1 (1 : Int32) (p0 &&& (2147483647 : Int32)))), .val (.int (own_f_rm1 (1 : Int32) (p1 &&& (2147483647 : Int32)))), .val (.int (p2 &&& (2147483647 : Int32))), .val (.ref b43), .val (.long (own_f_rm3 (own_f_rm1 (1 : Int32) (p0 &&& (2147483647 : Int32))) (own_f_rm1 (1 : Int32) (p1 &&& (2147483647 : Int32))) (p2 &&& (2147483647 : Int32)))), .second, .val (.long ((2 : Int64) * (((own_f_rm1 (1 : Int32) (p0 &&& (2147483647 : Int32))).toInt64) + ((own_f_rm1 (1 : Int32) (p1 &&& (2147483647 : Int32))).toInt64)))), .second, .val (.long (((2 : Int64) * (((own_f_rm1 (1 : Int32) (p0 &&& (2147483647 : Int32))).toInt64) + ((own_f_rm1 (1 : Int32) (p1 &&& (2147483647 : Int32))).toInt64))) * ((p2 &&& (2147483647 : Int32)).toInt64))), .second, .unset, .unset] [])) _
      refine X45.ldc2Long hx hown (mvT hZ (hw _ (List.mem_of_getElem? (i := 32) rfl))) (g := (mkF m 80 #[.val (.int p0), .val (.int p1), .val (.int p2), .val (.int (own_f_rm1 (1 : Int32) (p0 &&& (2147483647 : Int32)))), .val (.int (own_f_rm1 (1 : Int32) (p1 &&& (2147483647 : Int32)))), .val (.int (p2 &&& (2147483647 : Int32))), .val (.ref b43), .val (.long (own_f_rm3 (own_f_rm1 (1 : Int32) (p0 &&& (2147483647 : Int32))) (own_f_rm1 (1 : Int32) (p1 &&& (2147483647 : Int32))) (p2 &&& (2147483647 : Int32)))), .second, .val (.long ((2 : Int64) * (((own_f_rm1 (1 : Int32) (p0 &&& (2147483647 : Int32))).toInt64) + ((own_f_rm1 (1 : Int32) (p1 &&& (2147483647 : Int32))).toInt64)))), .second, .val (.long (((2 : Int64) * (((own_f_rm1 (1 : Int32) (p0 &&& (2147483647 : Int32))).toInt64) + ((own_f_rm1 (1 : Int32) (p1 &&& (2147483647 : Int32))).toInt64))) * ((p2 &&& (2147483647 : Int32)).toInt64))), .second, .unset, .unset] [])) rfl (hb hby at_80) _ ?_
      show Steps p.tables e below (T45.setTop (mkF m 83 #[.val (.int p0), .val (.int p1), .val (.int p2), .val (.int (own_f_rm1 (1 : Int32) (p0 &&& (2147483647 : Int32)))), .val (.int (own_f_rm1 (1 : Int32) (p1 &&& (2147483647 : Int32)))), .val (.int (p2 &&& (2147483647 : Int32))), .val (.ref b43), .val (.long (own_f_rm3 (own_f_rm1 (1 : Int32) (p0 &&& (2147483647 : Int32))) (own_f_rm1 (1 : Int32) (p1 &&& (2147483647 : Int32))) (p2 &&& (2147483647 : Int32)))), .second, .val (.long ((2 : Int64) * (((own_f_rm1 (1 : Int32) (p0 &&& (2147483647 : Int32))).toInt64) + ((own_f_rm1 (1 : Int32) (p1 &&& (2147483647 : Int32))).toInt64)))), .second, .val (.long (((2 : Int64) * (((own_f_rm1 (1 : Int32) (p0 &&& (2147483647 : Int32))).toInt64) + ((own_f_rm1 (1 : Int32) (p1 &&& (2147483647 : Int32))).toInt64))) * ((p2 &&& (2147483647 : Int32)).toInt64))), .second, .unset, .unset] [(.long (9223372036854775807 : Int64))])) _
      refine XS.lstore X45.here hx rfl (hb hby at_83) rfl (l' := #[.val (.int p0), .val (.int p1), .val (.int p2), .val (.int (own_f_rm1 (1 : Int32) (p0 &&& (2147483647 : Int32)))), .val (.int (own_f_rm1 (1 : Int32) (p1 &&& (2147483647 : Int32)))), .val (.int (p2 &&& (2147483647 : Int32))), .val (.ref b43), .val (.long (own_f_rm3 (own_f_rm1 (1 : Int32) (p0 &&& (2147483647 : Int32))) (own_f_rm1 (1 : Int32) (p1 &&& (2147483647 : Int32))) (p2 &&& (2147483647 : Int32)))), .second, .val (.long ((2 : Int64) * (((own_f_rm1 (1 : Int32) (p0 &&& (2147483647 : Int32))).toInt64) + ((own_f_rm1 (1 : Int32) (p1 &&& (2147483647 : Int32))).toInt64)))), .second, .val (.long (((2 : Int64) * (((own_f_rm1 (1 : Int32) (p0 &&& (2147483647 : Int32))).toInt64) + ((own_f_rm1 (1 : Int32) (p1 &&& (2147483647 : Int32))).toInt64))) * ((p2 &&& (2147483647 : Int32)).toInt64))), .second, .val (.long (9223372036854775807 : Int64)), .second]) rfl ?_
      show Steps p.tables e below (T45.setTop (mkF m 85 #[.val (.int p0), .val (.int p1), .val (.int p2), .val (.int (own_f_rm1 (1 : Int32) (p0 &&& (2147483647 : Int32)))), .val (.int (own_f_rm1 (1 : Int32) (p1 &&& (2147483647 : Int32)))), .val (.int (p2 &&& (2147483647 : Int32))), .val (.ref b43), .val (.long (own_f_rm3 (own_f_rm1 (1 : Int32) (p0 &&& (2147483647 : Int32))) (own_f_rm1 (1 : Int32) (p1 &&& (2147483647 : Int32))) (p2 &&& (2147483647 : Int32)))), .second, .val (.long ((2 : Int64) * (((own_f_rm1 (1 : Int32) (p0 &&& (2147483647 : Int32))).toInt64) + ((own_f_rm1 (1 : Int32) (p1 &&& (2147483647 : Int32))).toInt64)))), .second, .val (.long (((2 : Int64) * (((own_f_rm1 (1 : Int32) (p0 &&& (2147483647 : Int32))).toInt64) + ((own_f_rm1 (1 : Int32) (p1 &&& (2147483647 : Int32))).toInt64))) * ((p2 &&& (2147483647 : Int32)).toInt64))), .second, .val (.long (9223372036854775807 : Int64)), .second] [])) _
      refine XS.lload X45.here hx rfl (hb hby at_85) rfl ?_
      show Steps p.tables e below (T45.setTop (mkF m 87 #[.val (.int p0), .val (.int p1), .val (.int p2), .val (.int (own_f_rm1 (1 : Int32) (p0 &&& (2147483647 : Int32)))), .val (.int (own_f_rm1 (1 : Int32) (p1 &&& (2147483647 : Int32)))), .val (.int (p2 &&& (2147483647 : Int32))), .val (.ref b43), .val (.long (own_f_rm3 (own_f_rm1 (1 : Int32) (p0 &&& (2147483647 : Int32))) (own_f_rm1 (1 : Int32) (p1 &&& (2147483647 : Int32))) (p2 &&& (2147483647 : Int32)))), .second, .val (.long ((2 : Int64) * (((own_f_rm1 (1 : Int32) (p0 &&& (2147483647 : Int32))).toInt64) + ((own_f_rm1 (1 : Int32) (p1 &&& (2147483647 : Int32))).toInt64)))), .second, .val (.long (((2 : Int64) * (((own_f_rm1 (1 : Int32) (p0 &&& (2147483647 : Int32))).toInt64) + ((own_f_rm1 (1 : Int32) (p1 &&& (2147483647 : Int32))).toInt64))) * ((p2 &&& (2147483647 : Int32)).toInt64))), .second, .val (.long (9223372036854775807 : Int64)), .second] [(.long (own_f_rm3 (own_f_rm1 (1 : Int32) (p0 &&& (2147483647 : Int32))) (own_f_rm1 (1 : Int32) (p1 &&& (2147483647 : Int32))) (p2 &&& (2147483647 : Int32))))])) _
      refine XS.lload X45.here hx rfl (hb hby at_87) rfl ?_
      show Steps p.tables e below (T45.setTop (mkF m 89 #[.val (.int p0), .val (.int p1), .val (.int p2), .val (.int (own_f_rm1 (1 : Int32) (p0 &&& (2147483647 : Int32)))), .val (.int (own_f_rm1 (1 : Int32) (p1 &&& (2147483647 : Int32)))), .val (.int (p2 &&& (2147483647 : Int32))), .val (.ref b43), .val (.long (own_f_rm3 (own_f_rm1 (1 : Int32) (p0 &&& (2147483647 : Int32))) (own_f_rm1 (1 : Int32) (p1 &&& (2147483647 : Int32))) (p2 &&& (2147483647 : Int32)))), .second, .val (.long ((2 : Int64) * (((own_f_rm1 (1 : Int32) (p0 &&& (2147483647 : Int32))).toInt64) + ((own_f_rm1 (1 : Int32) (p1 &&& (2147483647 : Int32))).toInt64)))), .second, .val (.long (((2 : Int64) * (((own_f_rm1 (1 : Int32) (p0 &&& (2147483647 : Int32))).toInt64) + ((own_f_rm1 (1 : Int32) (p1 &&& (2147483647 : Int32))).toInt64))) * ((p2 &&& (2147483647 : Int32)).toInt64))), .second, .val (.long (9223372036854775807 : Int64)), .second] [(.long (9223372036854775807 : Int64)), (.long (own_f_rm3 (own_f_rm1 (1 : Int32) (p0 &&& (2147483647 : Int32))) (own_f_rm1 (1 : Int32) (p1 &&& (2147483647 : Int32))) (p2 &&& (2147483647 : Int32))))])) _
      refine XS.lcmp X45.here hx rfl (hb hby at_89) rfl ?_
      show Steps p.tables e below (T45.setTop (mkF m 90 #[.val (.int p0), .val (.int p1), .val (.int p2), .val (.int (own_f_rm1 (1 : Int32) (p0 &&& (2147483647 : Int32)))), .val (.int (own_f_rm1 (1 : Int32) (p1 &&& (2147483647 : Int32)))), .val (.int (p2 &&& (2147483647 : Int32))), .val (.ref b43), .val (.long (own_f_rm3 (own_f_rm1 (1 : Int32) (p0 &&& (2147483647 : Int32))) (own_f_rm1 (1 : Int32) (p1 &&& (2147483647 : Int32))) (p2 &&& (2147483647 : Int32)))), .second, .val (.long ((2 : Int64) * (((own_f_rm1 (1 : Int32) (p0 &&& (2147483647 : Int32))).toInt64) + ((own_f_rm1 (1 : Int32) (p1 &&& (2147483647 : Int32))).toInt64)))), .second, .val (.long (((2 : Int64) * (((own_f_rm1 (1 : Int32) (p0 &&& (2147483647 : Int32))).toInt64) + ((own_f_rm1 (1 : Int32) (p1 &&& (2147483647 : Int32))).toInt64))) * ((p2 &&& (2147483647 : Int32)).toInt64))), .second, .val (.long (9223372036854775807 : Int64)), .second] [(.int (lcmpW (own_f_rm3 (own_f_rm1 (1 : Int32) (p0 &&& (2147483647 : Int32))) (own_f_rm1 (1 : Int32) (p1 &&& (2147483647 : Int32))) (p2 &&& (2147483647 : Int32))) (9223372036854775807 : Int64)))])) _
      refine XS.ifNo X45.here hx rfl (hb hby at_90) rfl ((if0 _ _).trans (teq ((lw_eq _ _).mpr hc90_47)).2) ?_
      show Steps p.tables e below (T45.setTop (mkF m 93 #[.val (.int p0), .val (.int p1), .val (.int p2), .val (.int (own_f_rm1 (1 : Int32) (p0 &&& (2147483647 : Int32)))), .val (.int (own_f_rm1 (1 : Int32) (p1 &&& (2147483647 : Int32)))), .val (.int (p2 &&& (2147483647 : Int32))), .val (.ref b43), .val (.long (own_f_rm3 (own_f_rm1 (1 : Int32) (p0 &&& (2147483647 : Int32))) (own_f_rm1 (1 : Int32) (p1 &&& (2147483647 : Int32))) (p2 &&& (2147483647 : Int32)))), .second, .val (.long ((2 : Int64) * (((own_f_rm1 (1 : Int32) (p0 &&& (2147483647 : Int32))).toInt64) + ((own_f_rm1 (1 : Int32) (p1 &&& (2147483647 : Int32))).toInt64)))), .second, .val (.long (((2 : Int64) * (((own_f_rm1 (1 : Int32) (p0 &&& (2147483647 : Int32))).toInt64) + ((own_f_rm1 (1 : Int32) (p1 &&& (2147483647 : Int32))).toInt64))) * ((p2 &&& (2147483647 : Int32)).toInt64))), .second, .val (.long (9223372036854775807 : Int64)), .second] [])) _
      refine XS.iconst X45.here hx rfl (hb hby at_93) ?_
      show Steps p.tables e below (T45.setTop (mkF m 94 #[.val (.int p0), .val (.int p1), .val (.int p2), .val (.int (own_f_rm1 (1 : Int32) (p0 &&& (2147483647 : Int32)))), .val (.int (own_f_rm1 (1 : Int32) (p1 &&& (2147483647 : Int32)))), .val (.int (p2 &&& (2147483647 : Int32))), .val (.ref b43), .val (.long (own_f_rm3 (own_f_rm1 (1 : Int32) (p0 &&& (2147483647 : Int32))) (own_f_rm1 (1 : Int32) (p1 &&& (2147483647 : Int32))) (p2 &&& (2147483647 : Int32)))), .second, .val (.long ((2 : Int64) * (((own_f_rm1 (1 : Int32) (p0 &&& (2147483647 : Int32))).toInt64) + ((own_f_rm1 (1 : Int32) (p1 &&& (2147483647 : Int32))).toInt64)))), .second, .val (.long (((2 : Int64) * (((own_f_rm1 (1 : Int32) (p0 &&& (2147483647 : Int32))).toInt64) + ((own_f_rm1 (1 : Int32) (p1 &&& (2147483647 : Int32))).toInt64))) * ((p2 &&& (2147483647 : Int32)).toInt64))), .second, .val (.long (9223372036854775807 : Int64)), .second] [(.int (1 : Int32))])) _
      refine XS.goto X45.here hx rfl (pc0 := 94) (pc' := 98) rfl (hb hby at_94) (by decide) (by decide) ?_
      show Steps p.tables e below (T45.setTop (mkF m 98 #[.val (.int p0), .val (.int p1), .val (.int p2), .val (.int (own_f_rm1 (1 : Int32) (p0 &&& (2147483647 : Int32)))), .val (.int (own_f_rm1 (1 : Int32) (p1 &&& (2147483647 : Int32)))), .val (.int (p2 &&& (2147483647 : Int32))), .val (.ref b43), .val (.long (own_f_rm3 (own_f_rm1 (1 : Int32) (p0 &&& (2147483647 : Int32))) (own_f_rm1 (1 : Int32) (p1 &&& (2147483647 : Int32))) (p2 &&& (2147483647 : Int32)))), .second, .val (.long ((2 : Int64) * (((own_f_rm1 (1 : Int32) (p0 &&& (2147483647 : Int32))).toInt64) + ((own_f_rm1 (1 : Int32) (p1 &&& (2147483647 : Int32))).toInt64)))), .second, .val (.long (((2 : Int64) * (((own_f_rm1 (1 : Int32) (p0 &&& (2147483647 : Int32))).toInt64) + ((own_f_rm1 (1 : Int32) (p1 &&& (2147483647 : Int32))).toInt64))) * ((p2 &&& (2147483647 : Int32)).toInt64))), .second, .val (.long (9223372036854775807 : Int64)), .second] [(.int (1 : Int32))])) _
      exact retN X45 hx (t := .boolean) Bd.returns (by simp) (hb hby at_98) hr
    · show Q0 Z p0 p1 p2 h0 n0 _ T45.heap _
      rw [e45]
      exact ⟨rfl, N45⟩
  · have hc90_48 : (own_f_rm3 (own_f_rm1 (1 : Int32) (p0 &&& (2147483647 : Int32))) (own_f_rm1 (1 : Int32) (p1 &&& (2147483647 : Int32))) (p2 &&& (2147483647 : Int32))) = (((2 : Int64) * (((own_f_rm1 (1 : Int32) (p0 &&& (2147483647 : Int32))).toInt64) + ((own_f_rm1 (1 : Int32) (p1 &&& (2147483647 : Int32))).toInt64))) * ((p2 &&& (2147483647 : Int32)).toInt64)) := by rw [own_core _ _ _ (own_w p0) (own_w p1) (own_p p2), if_neg hc72]
    obtain ⟨fs, hr, hrun, hended, hW, hsame⟩ := X45.leave (v := some (.int (1 : Int32))) (fun h => by rw [Bd.returns] at h; cases h)
    refine ⟨_, _, pre46 _ ?_, hrun, hended, _, _, rfl, ?_, ⟨_, rfl⟩, hW, hsame.mono (by decide) (by decide)⟩
    · show Steps p.tables e below (T45.setTop (mkF m 72 #[.val (.int p0), .val (.int p1), .val (.int p2), .val (.int (own_f_rm1 (1 : Int32) (p0 &&& (2147483647 : Int32)))), .val (.int (own_f_rm1 (1 : Int32) (p1 &&& (2147483647 : Int32)))), .val (.int (p2 &&& (2147483647 : Int32))), .val (.ref b43), .val (.long (own_f_rm3 (own_f_rm1 (1 : Int32) (p0 &&& (2147483647 : Int32))) (own_f_rm1 (1 : Int32) (p1 &&& (2147483647 : Int32))) (p2 &&& (2147483647 : Int32)))), .second, .val (.long ((2 : Int64) * (((own_f_rm1 (1 : Int32) (p0 &&& (2147483647 : Int32))).toInt64) + ((own_f_rm1 (1 : Int32) (p1 &&& (2147483647 : Int32))).toInt64)))), .second, .val (.long (((2 : Int64) * (((own_f_rm1 (1 : Int32) (p0 &&& (2147483647 : Int32))).toInt64) + ((own_f_rm1 (1 : Int32) (p1 &&& (2147483647 : Int32))).toInt64))) * ((p2 &&& (2147483647 : Int32)).toInt64))), .second, .unset, .unset] [(.int (lcmpW (((2 : Int64) * (((own_f_rm1 (1 : Int32) (p0 &&& (2147483647 : Int32))).toInt64) + ((own_f_rm1 (1 : Int32) (p1 &&& (2147483647 : Int32))).toInt64))) * ((p2 &&& (2147483647 : Int32)).toInt64)) (0 : Int64)))])) _
      refine XS.ifNo X45.here hx rfl (hb hby at_72) rfl ((if0 _ _).trans (flt (fun q => hc72 ((lw_lt _ _).mp q))).1) ?_
      show Steps p.tables e below (T45.setTop (mkF m 75 #[.val (.int p0), .val (.int p1), .val (.int p2), .val (.int (own_f_rm1 (1 : Int32) (p0 &&& (2147483647 : Int32)))), .val (.int (own_f_rm1 (1 : Int32) (p1 &&& (2147483647 : Int32)))), .val (.int (p2 &&& (2147483647 : Int32))), .val (.ref b43), .val (.long (own_f_rm3 (own_f_rm1 (1 : Int32) (p0 &&& (2147483647 : Int32))) (own_f_rm1 (1 : Int32) (p1 &&& (2147483647 : Int32))) (p2 &&& (2147483647 : Int32)))), .second, .val (.long ((2 : Int64) * (((own_f_rm1 (1 : Int32) (p0 &&& (2147483647 : Int32))).toInt64) + ((own_f_rm1 (1 : Int32) (p1 &&& (2147483647 : Int32))).toInt64)))), .second, .val (.long (((2 : Int64) * (((own_f_rm1 (1 : Int32) (p0 &&& (2147483647 : Int32))).toInt64) + ((own_f_rm1 (1 : Int32) (p1 &&& (2147483647 : Int32))).toInt64))) * ((p2 &&& (2147483647 : Int32)).toInt64))), .second, .unset, .unset] [])) _
      refine XS.lload X45.here hx rfl (hb hby at_75) rfl ?_
      show Steps p.tables e below (T45.setTop (mkF m 77 #[.val (.int p0), .val (.int p1), .val (.int p2), .val (.int (own_f_rm1 (1 : Int32) (p0 &&& (2147483647 : Int32)))), .val (.int (own_f_rm1 (1 : Int32) (p1 &&& (2147483647 : Int32)))), .val (.int (p2 &&& (2147483647 : Int32))), .val (.ref b43), .val (.long (own_f_rm3 (own_f_rm1 (1 : Int32) (p0 &&& (2147483647 : Int32))) (own_f_rm1 (1 : Int32) (p1 &&& (2147483647 : Int32))) (p2 &&& (2147483647 : Int32)))), .second, .val (.long ((2 : Int64) * (((own_f_rm1 (1 : Int32) (p0 &&& (2147483647 : Int32))).toInt64) + ((own_f_rm1 (1 : Int32) (p1 &&& (2147483647 : Int32))).toInt64)))), .second, .val (.long (((2 : Int64) * (((own_f_rm1 (1 : Int32) (p0 &&& (2147483647 : Int32))).toInt64) + ((own_f_rm1 (1 : Int32) (p1 &&& (2147483647 : Int32))).toInt64))) * ((p2 &&& (2147483647 : Int32)).toInt64))), .second, .unset, .unset] [(.long (((2 : Int64) * (((own_f_rm1 (1 : Int32) (p0 &&& (2147483647 : Int32))).toInt64) + ((own_f_rm1 (1 : Int32) (p1 &&& (2147483647 : Int32))).toInt64))) * ((p2 &&& (2147483647 : Int32)).toInt64)))])) _
      refine XS.goto X45.here hx rfl (pc0 := 77) (pc' := 83) rfl (hb hby at_77) (by decide) (by decide) ?_
      show Steps p.tables e below (T45.setTop (mkF m 83 #[.val (.int p0), .val (.int p1), .val (.int p2), .val (.int (own_f_rm1 (1 : Int32) (p0 &&& (2147483647 : Int32)))), .val (.int (own_f_rm1 (1 : Int32) (p1 &&& (2147483647 : Int32)))), .val (.int (p2 &&& (2147483647 : Int32))), .val (.ref b43), .val (.long (own_f_rm3 (own_f_rm1 (1 : Int32) (p0 &&& (2147483647 : Int32))) (own_f_rm1 (1 : Int32) (p1 &&& (2147483647 : Int32))) (p2 &&& (2147483647 : Int32)))), .second, .val (.long ((2 : Int64) * (((own_f_rm1 (1 : Int32) (p0 &&& (2147483647 : Int32))).toInt64) + ((own_f_rm1 (1 : Int32) (p1 &&& (2147483647 : Int32))).toInt64)))), .second, .val (.long (((2 : Int64) * (((own_f_rm1 (1 : Int32) (p0 &&& (2147483647 : Int32))).toInt64) + ((own_f_rm1 (1 : Int32) (p1 &&& (2147483647 : Int32))).toInt64))) * ((p2 &&& (2147483647 : Int32)).toInt64))), .second, .unset, .unset] [(.long (((2 : Int64) * (((own_f_rm1 (1 : Int32) (p0 &&& (2147483647 : Int32))).toInt64) + ((own_f_rm1 (1 : Int32) (p1 &&& (2147483647 : Int32))).toInt64))) * ((p2 &&& (2147483647 : Int32)).toInt64)))])) _
      refine XS.lstore X45.here hx rfl (hb hby at_83) rfl (l' := #[.val (.int p0), .val (.int p1), .val (.int p2), .val (.int (own_f_rm1 (1 : Int32) (p0 &&& (2147483647 : Int32)))), .val (.int (own_f_rm1 (1 : Int32) (p1 &&& (2147483647 : Int32)))), .val (.int (p2 &&& (2147483647 : Int32))), .val (.ref b43), .val (.long (own_f_rm3 (own_f_rm1 (1 : Int32) (p0 &&& (2147483647 : Int32))) (own_f_rm1 (1 : Int32) (p1 &&& (2147483647 : Int32))) (p2 &&& (2147483647 : Int32)))), .second, .val (.long ((2 : Int64) * (((own_f_rm1 (1 : Int32) (p0 &&& (2147483647 : Int32))).toInt64) + ((own_f_rm1 (1 : Int32) (p1 &&& (2147483647 : Int32))).toInt64)))), .second, .val (.long (((2 : Int64) * (((own_f_rm1 (1 : Int32) (p0 &&& (2147483647 : Int32))).toInt64) + ((own_f_rm1 (1 : Int32) (p1 &&& (2147483647 : Int32))).toInt64))) * ((p2 &&& (2147483647 : Int32)).toInt64))), .second, .val (.long (((2 : Int64) * (((own_f_rm1 (1 : Int32) (p0 &&& (2147483647 : Int32))).toInt64) + ((own_f_rm1 (1 : Int32) (p1 &&& (2147483647 : Int32))).toInt64))) * ((p2 &&& (2147483647 : Int32)).toInt64))), .second]) rfl ?_
      show Steps p.tables e below (T45.setTop (mkF m 85 #[.val (.int p0), .val (.int p1), .val (.int p2), .val (.int (own_f_rm1 (1 : Int32) (p0 &&& (2147483647 : Int32)))), .val (.int (own_f_rm1 (1 : Int32) (p1 &&& (2147483647 : Int32)))), .val (.int (p2 &&& (2147483647 : Int32))), .val (.ref b43), .val (.long (own_f_rm3 (own_f_rm1 (1 : Int32) (p0 &&& (2147483647 : Int32))) (own_f_rm1 (1 : Int32) (p1 &&& (2147483647 : Int32))) (p2 &&& (2147483647 : Int32)))), .second, .val (.long ((2 : Int64) * (((own_f_rm1 (1 : Int32) (p0 &&& (2147483647 : Int32))).toInt64) + ((own_f_rm1 (1 : Int32) (p1 &&& (2147483647 : Int32))).toInt64)))), .second, .val (.long (((2 : Int64) * (((own_f_rm1 (1 : Int32) (p0 &&& (2147483647 : Int32))).toInt64) + ((own_f_rm1 (1 : Int32) (p1 &&& (2147483647 : Int32))).toInt64))) * ((p2 &&& (2147483647 : Int32)).toInt64))), .second, .val (.long (((2 : Int64) * (((own_f_rm1 (1 : Int32) (p0 &&& (2147483647 : Int32))).toInt64) + ((own_f_rm1 (1 : Int32) (p1 &&& (2147483647 : Int32))).toInt64))) * ((p2 &&& (2147483647 : Int32)).toInt64))), .second] [])) _
      refine XS.lload X45.here hx rfl (hb hby at_85) rfl ?_
      show Steps p.tables e below (T45.setTop (mkF m 87 #[.val (.int p0), .val (.int p1), .val (.int p2), .val (.int (own_f_rm1 (1 : Int32) (p0 &&& (2147483647 : Int32)))), .val (.int (own_f_rm1 (1 : Int32) (p1 &&& (2147483647 : Int32)))), .val (.int (p2 &&& (2147483647 : Int32))), .val (.ref b43), .val (.long (own_f_rm3 (own_f_rm1 (1 : Int32) (p0 &&& (2147483647 : Int32))) (own_f_rm1 (1 : Int32) (p1 &&& (2147483647 : Int32))) (p2 &&& (2147483647 : Int32)))), .second, .val (.long ((2 : Int64) * (((own_f_rm1 (1 : Int32) (p0 &&& (2147483647 : Int32))).toInt64) + ((own_f_rm1 (1 : Int32) (p1 &&& (2147483647 : Int32))).toInt64)))), .second, .val (.long (((2 : Int64) * (((own_f_rm1 (1 : Int32) (p0 &&& (2147483647 : Int32))).toInt64) + ((own_f_rm1 (1 : Int32) (p1 &&& (2147483647 : Int32))).toInt64))) * ((p2 &&& (2147483647 : Int32)).toInt64))), .second, .val (.long (((2 : Int64) * (((own_f_rm1 (1 : Int32) (p0 &&& (2147483647 : Int32))).toInt64) + ((own_f_rm1 (1 : Int32) (p1 &&& (2147483647 : Int32))).toInt64))) * ((p2 &&& (2147483647 : Int32)).toInt64))), .second] [(.long (own_f_rm3 (own_f_rm1 (1 : Int32) (p0 &&& (2147483647 : Int32))) (own_f_rm1 (1 : Int32) (p1 &&& (2147483647 : Int32))) (p2 &&& (2147483647 : Int32))))])) _
      refine XS.lload X45.here hx rfl (hb hby at_87) rfl ?_
      show Steps p.tables e below (T45.setTop (mkF m 89 #[.val (.int p0), .val (.int p1), .val (.int p2), .val (.int (own_f_rm1 (1 : Int32) (p0 &&& (2147483647 : Int32)))), .val (.int (own_f_rm1 (1 : Int32) (p1 &&& (2147483647 : Int32)))), .val (.int (p2 &&& (2147483647 : Int32))), .val (.ref b43), .val (.long (own_f_rm3 (own_f_rm1 (1 : Int32) (p0 &&& (2147483647 : Int32))) (own_f_rm1 (1 : Int32) (p1 &&& (2147483647 : Int32))) (p2 &&& (2147483647 : Int32)))), .second, .val (.long ((2 : Int64) * (((own_f_rm1 (1 : Int32) (p0 &&& (2147483647 : Int32))).toInt64) + ((own_f_rm1 (1 : Int32) (p1 &&& (2147483647 : Int32))).toInt64)))), .second, .val (.long (((2 : Int64) * (((own_f_rm1 (1 : Int32) (p0 &&& (2147483647 : Int32))).toInt64) + ((own_f_rm1 (1 : Int32) (p1 &&& (2147483647 : Int32))).toInt64))) * ((p2 &&& (2147483647 : Int32)).toInt64))), .second, .val (.long (((2 : Int64) * (((own_f_rm1 (1 : Int32) (p0 &&& (2147483647 : Int32))).toInt64) + ((own_f_rm1 (1 : Int32) (p1 &&& (2147483647 : Int32))).toInt64))) * ((p2 &&& (2147483647 : Int32)).toInt64))), .second] [(.long (((2 : Int64) * (((own_f_rm1 (1 : Int32) (p0 &&& (2147483647 : Int32))).toInt64) + ((own_f_rm1 (1 : Int32) (p1 &&& (2147483647 : Int32))).toInt64))) * ((p2 &&& (2147483647 : Int32)).toInt64))), (.long (own_f_rm3 (own_f_rm1 (1 : Int32) (p0 &&& (2147483647 : Int32))) (own_f_rm1 (1 : Int32) (p1 &&& (2147483647 : Int32))) (p2 &&& (2147483647 : Int32))))])) _
      refine XS.lcmp X45.here hx rfl (hb hby at_89) rfl ?_
      show Steps p.tables e below (T45.setTop (mkF m 90 #[.val (.int p0), .val (.int p1), .val (.int p2), .val (.int (own_f_rm1 (1 : Int32) (p0 &&& (2147483647 : Int32)))), .val (.int (own_f_rm1 (1 : Int32) (p1 &&& (2147483647 : Int32)))), .val (.int (p2 &&& (2147483647 : Int32))), .val (.ref b43), .val (.long (own_f_rm3 (own_f_rm1 (1 : Int32) (p0 &&& (2147483647 : Int32))) (own_f_rm1 (1 : Int32) (p1 &&& (2147483647 : Int32))) (p2 &&& (2147483647 : Int32)))), .second, .val (.long ((2 : Int64) * (((own_f_rm1 (1 : Int32) (p0 &&& (2147483647 : Int32))).toInt64) + ((own_f_rm1 (1 : Int32) (p1 &&& (2147483647 : Int32))).toInt64)))), .second, .val (.long (((2 : Int64) * (((own_f_rm1 (1 : Int32) (p0 &&& (2147483647 : Int32))).toInt64) + ((own_f_rm1 (1 : Int32) (p1 &&& (2147483647 : Int32))).toInt64))) * ((p2 &&& (2147483647 : Int32)).toInt64))), .second, .val (.long (((2 : Int64) * (((own_f_rm1 (1 : Int32) (p0 &&& (2147483647 : Int32))).toInt64) + ((own_f_rm1 (1 : Int32) (p1 &&& (2147483647 : Int32))).toInt64))) * ((p2 &&& (2147483647 : Int32)).toInt64))), .second] [(.int (lcmpW (own_f_rm3 (own_f_rm1 (1 : Int32) (p0 &&& (2147483647 : Int32))) (own_f_rm1 (1 : Int32) (p1 &&& (2147483647 : Int32))) (p2 &&& (2147483647 : Int32))) (((2 : Int64) * (((own_f_rm1 (1 : Int32) (p0 &&& (2147483647 : Int32))).toInt64) + ((own_f_rm1 (1 : Int32) (p1 &&& (2147483647 : Int32))).toInt64))) * ((p2 &&& (2147483647 : Int32)).toInt64))))])) _
      refine XS.ifNo X45.here hx rfl (hb hby at_90) rfl ((if0 _ _).trans (teq ((lw_eq _ _).mpr hc90_48)).2) ?_
      show Steps p.tables e below (T45.setTop (mkF m 93 #[.val (.int p0), .val (.int p1), .val (.int p2), .val (.int (own_f_rm1 (1 : Int32) (p0 &&& (2147483647 : Int32)))), .val (.int (own_f_rm1 (1 : Int32) (p1 &&& (2147483647 : Int32)))), .val (.int (p2 &&& (2147483647 : Int32))), .val (.ref b43), .val (.long (own_f_rm3 (own_f_rm1 (1 : Int32) (p0 &&& (2147483647 : Int32))) (own_f_rm1 (1 : Int32) (p1 &&& (2147483647 : Int32))) (p2 &&& (2147483647 : Int32)))), .second, .val (.long ((2 : Int64) * (((own_f_rm1 (1 : Int32) (p0 &&& (2147483647 : Int32))).toInt64) + ((own_f_rm1 (1 : Int32) (p1 &&& (2147483647 : Int32))).toInt64)))), .second, .val (.long (((2 : Int64) * (((own_f_rm1 (1 : Int32) (p0 &&& (2147483647 : Int32))).toInt64) + ((own_f_rm1 (1 : Int32) (p1 &&& (2147483647 : Int32))).toInt64))) * ((p2 &&& (2147483647 : Int32)).toInt64))), .second, .val (.long (((2 : Int64) * (((own_f_rm1 (1 : Int32) (p0 &&& (2147483647 : Int32))).toInt64) + ((own_f_rm1 (1 : Int32) (p1 &&& (2147483647 : Int32))).toInt64))) * ((p2 &&& (2147483647 : Int32)).toInt64))), .second] [])) _
      refine XS.iconst X45.here hx rfl (hb hby at_93) ?_
      show Steps p.tables e below (T45.setTop (mkF m 94 #[.val (.int p0), .val (.int p1), .val (.int p2), .val (.int (own_f_rm1 (1 : Int32) (p0 &&& (2147483647 : Int32)))), .val (.int (own_f_rm1 (1 : Int32) (p1 &&& (2147483647 : Int32)))), .val (.int (p2 &&& (2147483647 : Int32))), .val (.ref b43), .val (.long (own_f_rm3 (own_f_rm1 (1 : Int32) (p0 &&& (2147483647 : Int32))) (own_f_rm1 (1 : Int32) (p1 &&& (2147483647 : Int32))) (p2 &&& (2147483647 : Int32)))), .second, .val (.long ((2 : Int64) * (((own_f_rm1 (1 : Int32) (p0 &&& (2147483647 : Int32))).toInt64) + ((own_f_rm1 (1 : Int32) (p1 &&& (2147483647 : Int32))).toInt64)))), .second, .val (.long (((2 : Int64) * (((own_f_rm1 (1 : Int32) (p0 &&& (2147483647 : Int32))).toInt64) + ((own_f_rm1 (1 : Int32) (p1 &&& (2147483647 : Int32))).toInt64))) * ((p2 &&& (2147483647 : Int32)).toInt64))), .second, .val (.long (((2 : Int64) * (((own_f_rm1 (1 : Int32) (p0 &&& (2147483647 : Int32))).toInt64) + ((own_f_rm1 (1 : Int32) (p1 &&& (2147483647 : Int32))).toInt64))) * ((p2 &&& (2147483647 : Int32)).toInt64))), .second] [(.int (1 : Int32))])) _
      refine XS.goto X45.here hx rfl (pc0 := 94) (pc' := 98) rfl (hb hby at_94) (by decide) (by decide) ?_
      show Steps p.tables e below (T45.setTop (mkF m 98 #[.val (.int p0), .val (.int p1), .val (.int p2), .val (.int (own_f_rm1 (1 : Int32) (p0 &&& (2147483647 : Int32)))), .val (.int (own_f_rm1 (1 : Int32) (p1 &&& (2147483647 : Int32)))), .val (.int (p2 &&& (2147483647 : Int32))), .val (.ref b43), .val (.long (own_f_rm3 (own_f_rm1 (1 : Int32) (p0 &&& (2147483647 : Int32))) (own_f_rm1 (1 : Int32) (p1 &&& (2147483647 : Int32))) (p2 &&& (2147483647 : Int32)))), .second, .val (.long ((2 : Int64) * (((own_f_rm1 (1 : Int32) (p0 &&& (2147483647 : Int32))).toInt64) + ((own_f_rm1 (1 : Int32) (p1 &&& (2147483647 : Int32))).toInt64)))), .second, .val (.long (((2 : Int64) * (((own_f_rm1 (1 : Int32) (p0 &&& (2147483647 : Int32))).toInt64) + ((own_f_rm1 (1 : Int32) (p1 &&& (2147483647 : Int32))).toInt64))) * ((p2 &&& (2147483647 : Int32)).toInt64))), .second, .val (.long (((2 : Int64) * (((own_f_rm1 (1 : Int32) (p0 &&& (2147483647 : Int32))).toInt64) + ((own_f_rm1 (1 : Int32) (p1 &&& (2147483647 : Int32))).toInt64))) * ((p2 &&& (2147483647 : Int32)).toInt64))), .second] [(.int (1 : Int32))])) _
      exact retN X45 hx (t := .boolean) Bd.returns (by simp) (hb hby at_98) hr
    · show Q0 Z p0 p1 p2 h0 n0 _ T45.heap _
      rw [e45]
      exact ⟨rfl, N45⟩
set_option maxRecDepth 65536 in
set_option maxHeartbeats 40000000 in
theorem comes_1 {Post : Tables → Env → Array Value → State → Outcome → State → Prop} (hpost : ∀ tb e args s v u, (limb_1_1.after args s (.returned v) u = true ∧ limb_1_2.after args s (.returned v) u = true ∧ True) → FrameEnd s (.returned v) u (Jvm.fieldLocs frame_1_writes args s ++ Jvm.arrayLocs frame_1_arrays args s ++ Jvm.staticLocs frame_1_statics s) 16 128 → Post tb e args s (.returned v) u) :
    ArmFor flags0 classFile x code maxLocals ret World_1 tables_1 room_1 Calls_1 rest_1 Pre_1 Post := by
  intro l hfl _ _ p e ha hc hk s m args below hf hA hF happ hP
  obtain ⟨hcalls, hrest, hpre⟩ := hP
  obtain ⟨-, -, -, hnamed, -, -, -, hat⟩ := (Spec.applies_iff hf).mp happ
  obtain ⟨hg, hn⟩ := and_e (Cond.before_iff.mp (show (Jvm.Cond.and given_1 narrow_1).before args s = true from hpre))
  obtain ⟨hcount, hg0⟩ := and_e hg
  obtain ⟨hi0, hg1⟩ := and_e hg0
  obtain ⟨hi1, hg2⟩ := and_e hg1
  have hi2 := hg2
  obtain ⟨w0, w1, w2, rfl⟩ : ∃ w0 w1 w2 : Value, args = #[w0, w1, w2] := by
    have hs : args.size = 3 := by simpa [Cond.value, given_1] using hcount
    obtain ⟨L⟩ := args
    match L, hs with
    | [w0, w1, w2], _ => exact ⟨w0, w1, w2, rfl⟩
  have hw := fun d (hd : d ∈ tables_1) => atoms_spec (ws := Jvm.Cond.code x code maxLocals ret :: tables_1) hat d (List.mem_cons_of_mem _ hd)
  have hfit : Fit s := fun {y c} hc i hi => by
    obtain ⟨ha, rfl⟩ := Array.getElem?_eq_some_iff.mp hc
    have q := List.all_eq_true.mp ((Array.all_eq_true_iff_forall_mem.mp hF) _ (Array.getElem_mem ha)) i (List.mem_range.mpr hi)
    simpa [Array.getElem?_eq_getElem hi] using q
  obtain ⟨i0, ei0⟩ := is_v hi0
  obtain rfl : w0 = (.int i0) := Option.some.inj ei0
  obtain ⟨i1, ei1⟩ := is_v hi1
  obtain rfl : w1 = (.int i1) := Option.some.inj ei1
  obtain ⟨i2, ei2⟩ := is_v hi2
  obtain rfl : w2 = (.int i2) := Option.some.inj ei2
  obtain ⟨n, o, h1, h2, h3, _, L, rfl, ⟨rfl, N⟩, hq⟩ := rm0 l s _ hw tables_1 i0 i1 i2  s.heap s.heap.size (Nat.le_refl _)  p e ha hc hk s m _ below hf ((Spec.applies_iff_loose hf).mp happ).1 ⟨rfl, State.Warmed39.refl s, rfl⟩ trivial
  refine ⟨n, _, h1, h2, h3, hpost _ _ _ _ _ _ ⟨Cond.after_iff.mpr rfl, Cond.after_iff.mpr (eq_i res_at (Term.int_eval (1)) rfl), trivial⟩ ⟨hq.1, hq.2.1, (hq.2.2.sift fun y hy => Or.inr (N y hy)).mono (by decide) (by decide)⟩⟩
theorem main_1_1 : Claimed_1_1 := comes_1 fun _ _ _ _ _ _ h hF => ⟨h.1, hF⟩
theorem main_1_2 : Claimed_1_2 := comes_1 fun _ _ _ _ _ _ h hF => ⟨h.2.1, hF⟩
end Jvm.Pilot.@@N@@
namespace Jvm.Pilot.@@N@@
open Jvm Jvm.ClassFile Sem Op Lib Jvm.Free Jvm.Stand Jvm.Pilot.@@N@@.Jvm.D
/-! MADE BY PROGRAM (witnessworld.py) out of the Statement's table words and the real class files: 10 classes; the members and pool entries that the words name. The judged class is class 1, her method 1. -/
namespace start1
open Jvm.ClassFile
def u (s : String) : CpInfo := .utf8 (stringToUtf16 s)
/-- a pool by its gaps: so many unusable entries, then the entry; so many at the end -/
def gap : Nat → List CpInfo → List CpInfo
  | 0, r => r
  | n + 1, r => .unusable :: gap n r
def poolList (es : List (Nat × CpInfo)) (last : Nat) : List CpInfo := es.foldr (fun e r => gap e.1 (e.2 :: r)) (gap last [])
def pool (es : List (Nat × CpInfo)) (last : Nat) : Array CpInfo := ⟨poolList es last⟩
def fileOf (pool : Array CpInfo) (this : Nat) (attrs : Array Attribute := #[]) (ms : Array MethodInfo := #[]) (fl : Nat := 33) (sup : Nat := 0) (ifs : Array Nat := #[]) (fds : Array FieldInfo := #[]) : ClassFile where
  minorVersion := 0
  majorVersion := 65
  constantPool := pool
  accessFlags := fl
  thisClass := this
  superClass := sup
  interfaces := ifs
  fields := fds
  methods := ms
  attributes := attrs
def plain (name : String) (sup : Option ClassId) : Class where
  name := name
  kind := .ordinary
  loader := none
  accessFlags := 33
  super := sup
  interfaces := #[]
  cf := none
  fields := #[]
  methods := #[]
  instanceTypes := #[]
  staticTypes := #[]
  resolved := #[]
  callSites := []
  init := .initialized
  statics := none
  mirror := none

def pool0 : Array CpInfo := pool [(5, u "<init>"), (0, u "()V"), (1, .class_ 10), (1, u "java/lang/Object")] 113

def k0c0 : Code := { maxStack := 0, maxLocals := 1, code := object_method_1_code, exceptionTable := #[], attributes := #[] }
def k0m0 : Method := { name := "<init>", desc := "()V", sig := { parameters := [], returnType := none }, accessFlags := 1, code := some k0c0 }
/-- java/lang/Object -/
def k0 : Class := { plain "java/lang/Object" none with
  accessFlags := 33
  interfaces := #[]
  cf := some (fileOf pool0 8 #[] #[{ accessFlags := 1, nameIndex := 5, descriptorIndex := 6, attributes := #[] }] 33 0 #[] #[])
  fields := #[]
  methods := #[k0m0]
  instanceTypes := #[]
  staticTypes := #[]
  resolved := Array.replicate 124 none
  statics := none }

def pool1 : Array CpInfo := pool [(2, .class_ 4), (1, u "java/lang/Object"), (0, u "<init>"), (0, u "()V"), (0, .integer 2147483647), (0, .methodref 9 10), (0, .class_ 11), (0, .nameAndType 12 13), (0, u "java/lang/Math"), (0, u "max"), (0, u "(II)I"), (0, .class_ 15), (0, u "com/example/dalby/dalby/mesh/Mesh"), (0, .methodref 14 17), (0, .nameAndType 5 18), (0, u "(IIIII)V"), (0, .methodref 14 20), (0, .nameAndType 21 22), (0, u "edgePins"), (0, u "()J"), (0, .long 2), (3, .long 9223372036854775807), (1, .class_ 30), (0, u "com/example/dalby/dalby/mesh/MeshEdgePinsPinLaw"), (2, u "law"), (0, u "(III)Z")] 3

def k1m0 : Method := { name := "<init>", desc := "()V", sig := { parameters := [], returnType := none }, accessFlags := 1, code := none }
def k1c1 : Code := { maxStack := 7, maxLocals := 15, code := code, exceptionTable := #[], attributes := #[] }
def k1m1 : Method := { name := "law", desc := "(III)Z", sig := { parameters := [.int, .int, .int], returnType := some .boolean }, accessFlags := 9, code := some k1c1 }
/-- com/example/dalby/dalby/mesh/MeshEdgePinsPinLaw -/
def k1 : Class := { plain "com/example/dalby/dalby/mesh/MeshEdgePinsPinLaw" (some 0) with
  accessFlags := 49
  interfaces := #[]
  cf := some (fileOf pool1 29 #[] #[{ accessFlags := 1, nameIndex := 5, descriptorIndex := 6, attributes := #[] }, { accessFlags := 9, nameIndex := 33, descriptorIndex := 34, attributes := #[] }] 49 2 #[] #[])
  fields := #[]
  methods := #[k1m0, k1m1]
  instanceTypes := #[]
  staticTypes := #[]
  resolved := Array.replicate 38 none
  statics := none }

def pool2 : Array CpInfo := pool [(1, .class_ 2), (0, u "java/lang/Math"), (1, .class_ 6), (1, u "java/lang/Object"), (0, u "<init>"), (0, u "()V"), (89, .class_ 100), (1, u "java/lang/Math$RandomNumberGeneratorHolder"), (71, u "negativeZeroFloatBits"), (0, u "J"), (2, u "negativeZeroDoubleBits"), (21, u "max"), (46, u "$assertionsDisabled"), (0, u "Z"), (88, u "(II)I"), (2, u "twoToTheDoubleScaleDown"), (0, u "D"), (4, u "twoToTheDoubleScaleUp"), (9, u "E"), (3, u "PI"), (2, u "TAU"), (2, u "DEGREES_TO_RADIANS"), (0, u "RADIANS_TO_DEGREES")] 94

def k2m0 : Method := { name := "<init>", desc := "()V", sig := { parameters := [], returnType := none }, accessFlags := 2, code := none }
def k2c1 : Code := { maxStack := 2, maxLocals := 2, code := jdk_29_method_65_code, exceptionTable := #[], attributes := #[] }
def k2m1 : Method := { name := "max", desc := "(II)I", sig := { parameters := [.int, .int], returnType := some .int }, accessFlags := 9, code := some k2c1 }
/-- java/lang/Math -/
def k2 : Class := { plain "java/lang/Math" (some 0) with
  accessFlags := 49
  interfaces := #[]
  cf := some (fileOf pool2 1 #[.nestMembers #[98]] #[{ accessFlags := 2, nameIndex := 7, descriptorIndex := 8, attributes := #[] }, { accessFlags := 9, nameIndex := 198, descriptorIndex := 335, attributes := #[] }] 49 4 #[] #[{ accessFlags := 25, nameIndex := 354, descriptorIndex := 339, attributes := #[] }, { accessFlags := 25, nameIndex := 358, descriptorIndex := 339, attributes := #[] }, { accessFlags := 25, nameIndex := 361, descriptorIndex := 339, attributes := #[] }, { accessFlags := 26, nameIndex := 364, descriptorIndex := 339, attributes := #[] }, { accessFlags := 26, nameIndex := 365, descriptorIndex := 339, attributes := #[] }, { accessFlags := 26, nameIndex := 172, descriptorIndex := 173, attributes := #[] }, { accessFlags := 26, nameIndex := 176, descriptorIndex := 173, attributes := #[] }, { accessFlags := 8, nameIndex := 344, descriptorIndex := 339, attributes := #[] }, { accessFlags := 8, nameIndex := 338, descriptorIndex := 339, attributes := #[] }, { accessFlags := 4120, nameIndex := 245, descriptorIndex := 246, attributes := #[] }])
  fields := #[{ name := "E", type := .double, accessFlags := 25, slot := 0, constantValue := 0 }, { name := "PI", type := .double, accessFlags := 25, slot := 1, constantValue := 0 }, { name := "TAU", type := .double, accessFlags := 25, slot := 2, constantValue := 0 }, { name := "DEGREES_TO_RADIANS", type := .double, accessFlags := 26, slot := 3, constantValue := 0 }, { name := "RADIANS_TO_DEGREES", type := .double, accessFlags := 26, slot := 4, constantValue := 0 }, { name := "negativeZeroFloatBits", type := .long, accessFlags := 26, slot := 5, constantValue := 0 }, { name := "negativeZeroDoubleBits", type := .long, accessFlags := 26, slot := 6, constantValue := 0 }, { name := "twoToTheDoubleScaleUp", type := .double, accessFlags := 8, slot := 7, constantValue := 0 }, { name := "twoToTheDoubleScaleDown", type := .double, accessFlags := 8, slot := 8, constantValue := 0 }, { name := "$assertionsDisabled", type := .boolean, accessFlags := 4120, slot := 9, constantValue := 0 }]
  methods := #[k2m0, k2m1]
  instanceTypes := #[]
  staticTypes := #[.double, .double, .double, .double, .double, .long, .long, .double, .double, .boolean]
  resolved := Array.replicate 460 none
  statics := none }

def pool3 : Array CpInfo := pool [(1, .methodref 2 3), (0, .class_ 4), (0, .nameAndType 5 6), (0, u "java/lang/Object"), (0, u "<init>"), (0, u "()V"), (19, .fieldref 27 28), (0, .class_ 29), (0, .nameAndType 30 31), (0, u "com/example/dalby/dalby/mesh/Mesh"), (0, u "width"), (0, u "I"), (0, .fieldref 27 33), (0, .nameAndType 34 31), (0, u "height"), (0, .fieldref 27 36), (0, .nameAndType 37 31), (0, u "luts"), (0, .fieldref 27 39), (0, .nameAndType 40 31), (0, u "lutInputs"), (0, .fieldref 27 42), (0, .nameAndType 43 31), (0, u "pins"), (47, .long 9223372036854775807), (1, .long 2), (1, u "(IIIII)V"), (12, u "()J"), (0, u "edgePins")] 2

def k3c0 : Code := { maxStack := 7, maxLocals := 6, code := prog_32_method_1_code, exceptionTable := #[], attributes := #[] }
def k3m0 : Method := { name := "<init>", desc := "(IIIII)V", sig := { parameters := [.int, .int, .int, .int, .int], returnType := none }, accessFlags := 1, code := some k3c0 }
def k3c1 : Code := { maxStack := 6, maxLocals := 3, code := prog_32_method_12_code, exceptionTable := #[], attributes := #[] }
def k3m1 : Method := { name := "edgePins", desc := "()J", sig := { parameters := [], returnType := some .long }, accessFlags := 1, code := some k3c1 }
/-- com/example/dalby/dalby/mesh/Mesh -/
def k3 : Class := { plain "com/example/dalby/dalby/mesh/Mesh" (some 0) with
  accessFlags := 49
  interfaces := #[]
  cf := some (fileOf pool3 27 #[] #[{ accessFlags := 1, nameIndex := 5, descriptorIndex := 95, attributes := #[] }, { accessFlags := 1, nameIndex := 109, descriptorIndex := 108, attributes := #[] }] 49 2 #[] #[{ accessFlags := 18, nameIndex := 30, descriptorIndex := 31, attributes := #[] }, { accessFlags := 18, nameIndex := 34, descriptorIndex := 31, attributes := #[] }, { accessFlags := 18, nameIndex := 37, descriptorIndex := 31, attributes := #[] }, { accessFlags := 18, nameIndex := 40, descriptorIndex := 31, attributes := #[] }, { accessFlags := 18, nameIndex := 43, descriptorIndex := 31, attributes := #[] }])
  fields := #[{ name := "width", type := .int, accessFlags := 18, slot := 0, constantValue := 0 }, { name := "height", type := .int, accessFlags := 18, slot := 1, constantValue := 0 }, { name := "luts", type := .int, accessFlags := 18, slot := 2, constantValue := 0 }, { name := "lutInputs", type := .int, accessFlags := 18, slot := 3, constantValue := 0 }, { name := "pins", type := .int, accessFlags := 18, slot := 4, constantValue := 0 }]
  methods := #[k3m0, k3m1]
  instanceTypes := #[.int, .int, .int, .int, .int]
  staticTypes := #[]
  resolved := Array.replicate 112 none
  statics := none }

def pool4 : Array CpInfo := pool [(1, u "java/lang/Cloneable"), (0, .class_ 1), (0, u "java/lang/Object"), (0, .class_ 3)] 3

/-- java/lang/Cloneable -/
def k4 : Class := { plain "java/lang/Cloneable" (some 0) with
  accessFlags := 1537
  interfaces := #[]
  cf := some (fileOf pool4 2 #[] #[] 1537 4 #[] #[])
  fields := #[]
  methods := #[]
  instanceTypes := #[]
  staticTypes := #[]
  resolved := Array.replicate 8 none
  statics := none }

def pool5 : Array CpInfo := pool [(1, u "java/io/Serializable"), (0, .class_ 1), (0, u "java/lang/Object"), (0, .class_ 3)] 3

/-- java/io/Serializable -/
def k5 : Class := { plain "java/io/Serializable" (some 0) with
  accessFlags := 1537
  interfaces := #[]
  cf := some (fileOf pool5 2 #[] #[] 1537 4 #[] #[])
  fields := #[]
  methods := #[]
  instanceTypes := #[]
  staticTypes := #[]
  resolved := Array.replicate 8 none
  statics := none }

/-- the primitive byte -/
def k6 : Class := { plain "byte" none with kind := .primitive 'B', accessFlags := 0x411 }
/-- [B -/
def k7 : Class := { plain "[B" (some 0) with kind := .array 6 .byte, interfaces := #[4, 5], accessFlags := 1041 }

/-- the primitive int -/
def k8 : Class := { plain "int" none with kind := .primitive 'I', accessFlags := 0x411 }
/-- [I -/
def k9 : Class := { plain "[I" (some 0) with kind := .array 8 .int, interfaces := #[4, 5], accessFlags := 1041 }

def heap : Heap := #[]
def classes : Array Class := #[k0, k1, k2, k3, k4, k5, k6, k7, k8, k9]
def interned : List (Array UInt16 × Addr) := []
def slotsUsed : Nat := 0
def theMethod : MethodId := ⟨1, 1⟩
def args0 : Array Value := #[.int 5, .int 3, .int 4]
def aboutOver (below : List Frame) : State where
  vm := { classes := classes, interned := interned.toArray }
  heap := heap
  slotsUsed := slotsUsed
  threads := #[{ frames := .invoking theMethod args0 :: below }]
def below0 : List Frame := [.native { method := ⟨0, 0⟩, args := #[] }]
def about1 : State := aboutOver below0
def p0 : Program := .bare "" "" ""
def e0 : Env := launch0.env 0 0 0
theorem w_frames : about1.frames = Frame.invoking theMethod args0 :: below0 := rfl
set_option maxRecDepth 65536 in
theorem w_args : argsFit about1.vm theMethod args0 = true := by decide +kernel
set_option maxRecDepth 65536 in
theorem w_heap : heapFits about1 = true := by decide +kernel
set_option maxRecDepth 65536 in
theorem w_runnable : about1.curStatus? = some .runnable := by decide +kernel
set_option maxRecDepth 65536 in
theorem w_alone : about1.alone = true := by decide +kernel
set_option maxRecDepth 65536 in
theorem w_named : about1.methodNamed? x = some theMethod := by decide +kernel
set_option maxRecDepth 65536 in
theorem w_hears : about1.hears theMethod below0 = true := by decide +kernel
set_option maxRecDepth 65536 in
theorem w_ripe : about1.ripe theMethod args0 below0 = true := by decide +kernel
theorem w_running : about1.status = .running := rfl
set_option maxRecDepth 65536 in
theorem w_room : about1.hasRoom e0.platform room_1 = true :=
  launch0.hasRoom_least _ room_1 (by decide +kernel) (by decide +kernel) (by decide +kernel) (by decide +kernel) (by decide +kernel) (by decide +kernel)
theorem allAtoms_all (ts : List Jvm.Cond) (a : Array Jvm.Value) (st : Jvm.State) : (allAtoms ts).before a st = ts.all (fun c => c.before a st) := by
  induction ts with
  | nil => rfl
  | cons c t ih =>
    show (Jvm.Cond.and c (allAtoms t)).before a st = _
    rw [Jvm.Cond.before_and, ih, List.all_cons]
def words1 : List Jvm.Cond := Jvm.Cond.code x code maxLocals ret :: tables_1
/-- a 'code' word, met by the world's own term for the bytes: nothing is compared byte by byte -/
theorem code_word {y : MethodName} {bytes : ByteArray} {mx : Nat} {rt : Option FieldType} {a : Array Value} {s : State} {m : MethodId} {meth : Method} {c : Code} (h1 : s.methodNamed? y = some m) (h2 : s.vm.method? m = some meth) (h3 : meth.code = some c) (h4 : c.code = bytes)
    (h5 : (c.maxLocals == mx && c.exceptionTable.isEmpty && decide (c.maxStack ≤ mostOperands) && decide (meth.sig.returnType = rt) && !meth.locks && decide (parseMethodDescriptor y.desc = some meth.sig)) = true) : (Jvm.Cond.code y bytes mx rt).before a s = true := by
  simp only [Bool.and_eq_true, beq_iff_eq, Bool.not_eq_true', decide_eq_true_eq] at h5
  obtain ⟨⟨⟨⟨⟨g1, g2⟩, g3⟩, g4⟩, g5⟩, g6⟩ := h5
  simp [Cond.before, Cond.holds, Cond.value, h1, h2, h3, h4, g1, g2, g3, g4, g5, g6]
def isCode : Jvm.Cond → Bool
  | .code _ _ _ _ => true
  | _ => false
theorem all_split {L : List Jvm.Cond} {P : Jvm.Cond → Bool} (h1 : L.all (fun c => isCode c || P c) = true) (h2 : ∀ c ∈ L.filter isCode, P c = true) : L.all P = true := by
  refine List.all_eq_true.mpr fun c hc => ?_
  have h := List.all_eq_true.mp h1 c hc
  rcases Bool.eq_false_or_eq_true (isCode c) with hi | hi
  · exact h2 c (List.mem_filter.mpr ⟨hc, hi⟩)
  · simpa [hi] using h
set_option maxRecDepth 65536 in
theorem w_c0 : (Jvm.Cond.code x code maxLocals ret).before args0 about1 = true := code_word (m := ⟨1, 1⟩) (meth := k1m1) (c := k1c1) (by decide +kernel) rfl rfl rfl (by decide +kernel)
set_option maxRecDepth 65536 in
theorem w_c1 : (Jvm.Cond.code ({ cls := "java/lang/Math", name := "max", desc := "(II)I" } : Jvm.MethodName) jdk_29_method_65_code (2 : Nat) (Option.some Jvm.ClassFile.FieldType.int)).before args0 about1 = true := code_word (m := ⟨2, 1⟩) (meth := k2m1) (c := k2c1) (by decide +kernel) rfl rfl rfl (by decide +kernel)
set_option maxRecDepth 65536 in
theorem w_c2 : (Jvm.Cond.code ({ cls := "com/example/dalby/dalby/mesh/Mesh", name := "<init>", desc := "(IIIII)V" } : Jvm.MethodName) prog_32_method_1_code (6 : Nat) (Option.none : Option Jvm.ClassFile.FieldType)).before args0 about1 = true := code_word (m := ⟨3, 0⟩) (meth := k3m0) (c := k3c0) (by decide +kernel) rfl rfl rfl (by decide +kernel)
set_option maxRecDepth 65536 in
theorem w_c3 : (Jvm.Cond.code ({ cls := "java/lang/Object", name := "<init>", desc := "()V" } : Jvm.MethodName) object_method_1_code (1 : Nat) (Option.none : Option Jvm.ClassFile.FieldType)).before args0 about1 = true := code_word (m := ⟨0, 0⟩) (meth := k0m0) (c := k0c0) (by decide +kernel) rfl rfl rfl (by decide +kernel)
set_option maxRecDepth 65536 in
theorem w_c4 : (Jvm.Cond.code ({ cls := "com/example/dalby/dalby/mesh/Mesh", name := "edgePins", desc := "()J" } : Jvm.MethodName) prog_32_method_12_code (3 : Nat) (Option.some Jvm.ClassFile.FieldType.long)).before args0 about1 = true := code_word (m := ⟨3, 1⟩) (meth := k3m1) (c := k3c1) (by decide +kernel) rfl rfl rfl (by decide +kernel)
def codes1 : List Jvm.Cond := [Jvm.Cond.code x code maxLocals ret, Jvm.Cond.code ({ cls := "java/lang/Math", name := "max", desc := "(II)I" } : Jvm.MethodName) jdk_29_method_65_code (2 : Nat) (Option.some Jvm.ClassFile.FieldType.int), Jvm.Cond.code ({ cls := "com/example/dalby/dalby/mesh/Mesh", name := "<init>", desc := "(IIIII)V" } : Jvm.MethodName) prog_32_method_1_code (6 : Nat) (Option.none : Option Jvm.ClassFile.FieldType), Jvm.Cond.code ({ cls := "java/lang/Object", name := "<init>", desc := "()V" } : Jvm.MethodName) object_method_1_code (1 : Nat) (Option.none : Option Jvm.ClassFile.FieldType), Jvm.Cond.code ({ cls := "com/example/dalby/dalby/mesh/Mesh", name := "edgePins", desc := "()J" } : Jvm.MethodName) prog_32_method_12_code (3 : Nat) (Option.some Jvm.ClassFile.FieldType.long)]
set_option maxRecDepth 65536 in
theorem codes_eq : words1.filter isCode = codes1 := rfl
theorem w_codes : ∀ c ∈ words1.filter isCode, c.before args0 about1 = true := by
  rw [codes_eq]
  intro c hc
  simp only [codes1, List.mem_cons, List.not_mem_nil, or_false] at hc
  rcases hc with rfl | rfl | rfl | rfl | rfl
  · exact w_c0
  · exact w_c1
  · exact w_c2
  · exact w_c3
  · exact w_c4
set_option maxRecDepth 65536 in
theorem w_t1 : (words1.take 24).all (fun c => isCode c || c.before args0 about1) = true := by decide +kernel
set_option maxRecDepth 65536 in
theorem w_t2 : (words1.drop 24).all (fun c => isCode c || c.before args0 about1) = true := by decide +kernel
theorem w_tables : (allAtoms (Jvm.Cond.code x code maxLocals ret :: tables_1)).before args0 about1 = true := by
  rw [allAtoms_all]
  show words1.all (fun c => c.before args0 about1) = true
  refine all_split ?_ w_codes
  rw [← List.take_append_drop 24 words1, List.all_append, w_t1, w_t2]
  rfl
set_option maxRecDepth 65536 in
theorem w_case : (Jvm.Cond.and given_1 narrow_1).before args0 about1 = true := by decide +kernel
theorem w_applies : (headSpec (Jvm.Cond.code x code maxLocals ret :: tables_1) room_1).applies x e0.platform about1 = true :=
  (Spec.applies_iff w_frames).mpr ⟨w_running, w_runnable, w_alone, w_named, w_hears, w_ripe, w_room, w_tables⟩
theorem atStart : AtStart classFile x code maxLocals ret World_1 tables_1 room_1 Calls_1 rest_1 Pre_1 launch0 p0 e0 about1 theMethod args0 below0 :=
  ⟨lists_1, trivial, launch0.admits_env _ _ _, launch0.least_env, fairChoices_fair.cas, fairChoices_fair.clock, w_frames, w_args, w_heap, w_applies, trivial, trivial, w_case⟩
end start1
theorem witness_1 : WitnessClaimed_1 := ⟨start1.p0, start1.e0, start1.about1, start1.theMethod, start1.args0, start1.below0, start1.atStart⟩
end Jvm.Pilot.@@N@@
