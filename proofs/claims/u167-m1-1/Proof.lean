import JvmDerived
import JvmDerived.Pilot.@@N@@Statement
import JvmDerived.Pilot.@@N@@Code
set_option linter.unusedVariables false
set_option linter.unusedSimpArgs false
namespace Jvm.Pilot.@@N@@
open Jvm Jvm.ClassFile Sem Op Lib Jvm.Free Jvm.Stand Jvm.LawKit Jvm.RoadKit Bundle Jvm.Pilot.@@N@@.Jvm.D
theorem own_d1_0 : decode prog_40_method_51_code 0 = .ok (.iload_n 0, 1) := by decide +kernel
theorem own_d1_1 : decode prog_40_method_51_code 1 = .ok (.bipush 32, 2) := by decide +kernel
theorem own_d1_3 : decode prog_40_method_51_code 3 = .ok (.if_icmp .lt 10, 3) := by decide +kernel
theorem own_d1_13 : decode prog_40_method_51_code 13 = .ok (.iload_n 0, 1) := by decide +kernel
theorem own_d1_14 : decode prog_40_method_51_code 14 = .ok (.bipush 10, 2) := by decide +kernel
theorem own_d1_16 : decode prog_40_method_51_code 16 = .ok (.if_icmp .eq 43, 3) := by decide +kernel
theorem own_d1_59 : decode prog_40_method_51_code 59 = .ok (.iconst 1, 1) := by decide +kernel
theorem own_d1_60 : decode prog_40_method_51_code 60 = .ok (.goto 4, 3) := by decide +kernel
theorem own_d1_64 : decode prog_40_method_51_code 64 = .ok (.ireturn, 1) := by decide +kernel
theorem own_d1_19 : decode prog_40_method_51_code 19 = .ok (.iload_n 0, 1) := by decide +kernel
theorem own_d1_20 : decode prog_40_method_51_code 20 = .ok (.bipush 9, 2) := by decide +kernel
theorem own_d1_22 : decode prog_40_method_51_code 22 = .ok (.if_icmp .eq 37, 3) := by decide +kernel
theorem own_d1_25 : decode prog_40_method_51_code 25 = .ok (.iload_n 0, 1) := by decide +kernel
theorem own_d1_26 : decode prog_40_method_51_code 26 = .ok (.bipush 13, 2) := by decide +kernel
theorem own_d1_28 : decode prog_40_method_51_code 28 = .ok (.if_icmp .eq 31, 3) := by decide +kernel
theorem own_d1_31 : decode prog_40_method_51_code 31 = .ok (.iload_n 0, 1) := by decide +kernel
theorem own_d1_32 : decode prog_40_method_51_code 32 = .ok (.ldc_w 566, 3) := by decide +kernel
theorem own_d1_35 : decode prog_40_method_51_code 35 = .ok (.if_icmp .lt 10, 3) := by decide +kernel
theorem own_d1_45 : decode prog_40_method_51_code 45 = .ok (.iload_n 0, 1) := by decide +kernel
theorem own_d1_46 : decode prog_40_method_51_code 46 = .ok (.ldc_w 568, 3) := by decide +kernel
theorem own_d1_49 : decode prog_40_method_51_code 49 = .ok (.if_icmp .lt 14, 3) := by decide +kernel
theorem own_d1_63 : decode prog_40_method_51_code 63 = .ok (.iconst 0, 1) := by decide +kernel
theorem own_d1_52 : decode prog_40_method_51_code 52 = .ok (.iload_n 0, 1) := by decide +kernel
theorem own_d1_53 : decode prog_40_method_51_code 53 = .ok (.ldc_w 569, 3) := by decide +kernel
theorem own_d1_56 : decode prog_40_method_51_code 56 = .ok (.if_icmp .gt 7, 3) := by decide +kernel
theorem own_d1_38 : decode prog_40_method_51_code 38 = .ok (.iload_n 0, 1) := by decide +kernel
theorem own_d1_39 : decode prog_40_method_51_code 39 = .ok (.ldc_w 567, 3) := by decide +kernel
theorem own_d1_42 : decode prog_40_method_51_code 42 = .ok (.if_icmp .le 17, 3) := by decide +kernel
theorem own_d1_6 : decode prog_40_method_51_code 6 = .ok (.iload_n 0, 1) := by decide +kernel
theorem own_d1_7 : decode prog_40_method_51_code 7 = .ok (.ldc_w 565, 3) := by decide +kernel
theorem own_d1_10 : decode prog_40_method_51_code 10 = .ok (.if_icmp .le 49, 3) := by decide +kernel
def own_f_rm1 (p1 : Int32) : Int32 := if p1 < (32 : Int32) then if p1 = (10 : Int32) then (1 : Int32) else if p1 = (9 : Int32) then (1 : Int32) else if p1 = (13 : Int32) then (1 : Int32) else if p1 < (57344 : Int32) then if p1 < (65536 : Int32) then (0 : Int32) else if (1114111 : Int32) < p1 then (0 : Int32) else (1 : Int32) else if (65533 : Int32) < p1 then if p1 < (65536 : Int32) then (0 : Int32) else if (1114111 : Int32) < p1 then (0 : Int32) else (1 : Int32) else (1 : Int32) else if (55295 : Int32) < p1 then if p1 = (10 : Int32) then (1 : Int32) else if p1 = (9 : Int32) then (1 : Int32) else if p1 = (13 : Int32) then (1 : Int32) else if p1 < (57344 : Int32) then if p1 < (65536 : Int32) then (0 : Int32) else if (1114111 : Int32) < p1 then (0 : Int32) else (1 : Int32) else if (65533 : Int32) < p1 then if p1 < (65536 : Int32) then (0 : Int32) else if (1114111 : Int32) < p1 then (0 : Int32) else (1 : Int32) else (1 : Int32) else (1 : Int32)
theorem own_pn0 : plainName "com/example/partybook/partybook/io/XmlParser" = true := by first | (simp [plainName, overriddenIn]; done) | decide +kernel
theorem own_ef_rm1 (m : MethodId) (p1 : Int32) : entryFrame m #[(.int p1)] 1 = mkF m 0 #[.val (.int p1)] [] := by first | (simp [entryFrame, mkF, argsToLocals, Value.category]; done) | rfl
def Q1 (Z : State) (p1 : Int32) (h0 : Heap) (n0 : Nat) (v : Option Value) (h : Heap) (L : List Loc) : Prop := v = some (.int (own_f_rm1 p1)) ∧ Fr n0 L ∧ h = h0
set_option maxRecDepth 65536 in
set_option maxHeartbeats 40000000 in
theorem rm1 (l : Launch) (Z : State) (a0 : Array Value) (hw : ∀ d ∈ tables_1, d.before a0 Z = true) (ws : List Jvm.Cond) (p1 : Int32) (h0 : Heap) (n0 : Nat) (Z0 : n0 ≤ h0.size) :
    MetFree l (⟨"com/example/partybook/partybook/io/XmlParser", "isCharacter", "(I)Z"⟩ : MethodName) (head1 (Jvm.Cond.code (⟨"com/example/partybook/partybook/io/XmlParser", "isCharacter", "(I)Z"⟩ : MethodName) prog_40_method_51_code 1 (some .boolean) :: ws) ({ frames := 0, cells := 0, slots := 0, locals := 0 } : Room)) (fun a U => a = #[(.int p1)] ∧ Z.Warmed39 U.vm ∧ U.heap = h0) (fun _ _ _ _ _ => True) (fun _ U o U' => ∃ v L, o = .returned v ∧ Q1 Z p1 h0 n0 v U'.heap L ∧ FrameEnd U o U' L ({ frames := 0, cells := 0, slots := 0, locals := 0 } : Room).cells ({ frames := 0, cells := 0, slots := 0, locals := 0 } : Room).slots) := by
  refine MetFree.of_bodySF (plainFor_of_name own_pn0) hisR ?_
  intro p e s m args below meth c s₁ Bd hml0 hP hK
  obtain ⟨rfl, hZ, hh⟩ := hP
  have hx := Bd.exec
  have hby := Bd.bytes
  have hml : c.maxLocals = 1 := hml0
  have hown : s.vm.findClass "com/example/partybook/partybook/io/XmlParser" = some m.cls := findClass_of_methodNamed Bd.named
  have hnm := (name_of_methodNamed Bd.named Bd.method).1
  have X0 : Stand p l e ({ frames := 0, cells := 0, slots := 0, locals := 0 } : Room) s m #[(.int p1)] below meth c s₁ [] 0 0 := Stand.of_body Bd
  have e0 : s₁.heap = h0 := by rw [← hh, Bd.state]; rfl
  have N0 := Fr.nil n0
  have K0 : Keep h0 h0 [] := Keep.refl h0 _
  have pre0 : ∀ t, Steps p.tables e below (s₁.setTop (mkF m 0 #[.val (.int p1)] [])) t → Steps p.tables e below (s₁.setTop (entryFrame m #[(.int p1)] 1)) t := fun t k => castTop (own_ef_rm1 m p1) k
  have pre21 : ∀ t, Steps p.tables e below (s₁.setTop (mkF m 3 #[.val (.int p1)] [(.int (32 : Int32)), (.int p1)])) t → Steps p.tables e below (s₁.setTop (entryFrame m #[(.int p1)] 1)) t := fun t k => by
    refine pre0 _ ?_
    show Steps p.tables e below (s₁.setTop (mkF m 0 #[.val (.int p1)] [])) _
    refine XS.iloadN X0.here hx rfl (hb hby own_d1_0) rfl ?_
    show Steps p.tables e below (s₁.setTop (mkF m 1 #[.val (.int p1)] [(.int p1)])) _
    refine XS.bipush X0.here hx rfl (hb hby own_d1_1) ?_
    exact k
  by_cases hc3 : p1 < (32 : Int32)
  · have pre22 : ∀ t, Steps p.tables e below (s₁.setTop (mkF m 16 #[.val (.int p1)] [(.int (10 : Int32)), (.int p1)])) t → Steps p.tables e below (s₁.setTop (entryFrame m #[(.int p1)] 1)) t := fun t k => by
      refine pre21 _ ?_
      show Steps p.tables e below (s₁.setTop (mkF m 3 #[.val (.int p1)] [(.int (32 : Int32)), (.int p1)])) _
      refine XS.icmpYes X0.here hx rfl (pc0 := 3) (pc' := 13) rfl (hb hby own_d1_3) rfl (tlt hc3).1 (by decide) (by decide) ?_
      show Steps p.tables e below (s₁.setTop (mkF m 13 #[.val (.int p1)] [])) _
      refine XS.iloadN X0.here hx rfl (hb hby own_d1_13) rfl ?_
      show Steps p.tables e below (s₁.setTop (mkF m 14 #[.val (.int p1)] [(.int p1)])) _
      refine XS.bipush X0.here hx rfl (hb hby own_d1_14) ?_
      exact k
    by_cases hc16 : p1 = (10 : Int32)
    · obtain ⟨fs, hr, hrun, hended, hW, hsame⟩ := X0.leave (v := some (.int (1 : Int32))) (fun h => by rw [Bd.returns] at h; cases h)
      refine ⟨_, _, pre22 _ ?_, hrun, hended, _, _, rfl, ?_, ⟨_, rfl⟩, hW, hsame.mono (by decide) (by decide)⟩
      · show Steps p.tables e below (s₁.setTop (mkF m 16 #[.val (.int p1)] [(.int (10 : Int32)), (.int p1)])) _
        refine XS.icmpYes X0.here hx rfl (pc0 := 16) (pc' := 59) rfl (hb hby own_d1_16) rfl (teq hc16).1 (by decide) (by decide) ?_
        show Steps p.tables e below (s₁.setTop (mkF m 59 #[.val (.int p1)] [])) _
        refine XS.iconst X0.here hx rfl (hb hby own_d1_59) ?_
        show Steps p.tables e below (s₁.setTop (mkF m 60 #[.val (.int p1)] [(.int (1 : Int32))])) _
        refine XS.goto X0.here hx rfl (pc0 := 60) (pc' := 64) rfl (hb hby own_d1_60) (by decide) (by decide) ?_
        show Steps p.tables e below (s₁.setTop (mkF m 64 #[.val (.int p1)] [(.int (1 : Int32))])) _
        exact retN X0 hx (t := .boolean) Bd.returns (by simp) (hb hby own_d1_64) hr
      · show Q1 Z p1 h0 n0 _ s₁.heap _
        rw [e0]
        exact ⟨(congrArg (fun z => some (Value.int z)) (by unfold own_f_rm1; rw [if_pos hc3, if_pos hc16] : (1 : Int32) = (own_f_rm1 p1))), N0, rfl⟩
    · have pre23 : ∀ t, Steps p.tables e below (s₁.setTop (mkF m 22 #[.val (.int p1)] [(.int (9 : Int32)), (.int p1)])) t → Steps p.tables e below (s₁.setTop (entryFrame m #[(.int p1)] 1)) t := fun t k => by
        refine pre22 _ ?_
        show Steps p.tables e below (s₁.setTop (mkF m 16 #[.val (.int p1)] [(.int (10 : Int32)), (.int p1)])) _
        refine XS.icmpNo X0.here hx rfl (hb hby own_d1_16) rfl (feq hc16).1 ?_
        show Steps p.tables e below (s₁.setTop (mkF m 19 #[.val (.int p1)] [])) _
        refine XS.iloadN X0.here hx rfl (hb hby own_d1_19) rfl ?_
        show Steps p.tables e below (s₁.setTop (mkF m 20 #[.val (.int p1)] [(.int p1)])) _
        refine XS.bipush X0.here hx rfl (hb hby own_d1_20) ?_
        exact k
      by_cases hc22 : p1 = (9 : Int32)
      · obtain ⟨fs, hr, hrun, hended, hW, hsame⟩ := X0.leave (v := some (.int (1 : Int32))) (fun h => by rw [Bd.returns] at h; cases h)
        refine ⟨_, _, pre23 _ ?_, hrun, hended, _, _, rfl, ?_, ⟨_, rfl⟩, hW, hsame.mono (by decide) (by decide)⟩
        · show Steps p.tables e below (s₁.setTop (mkF m 22 #[.val (.int p1)] [(.int (9 : Int32)), (.int p1)])) _
          refine XS.icmpYes X0.here hx rfl (pc0 := 22) (pc' := 59) rfl (hb hby own_d1_22) rfl (teq hc22).1 (by decide) (by decide) ?_
          show Steps p.tables e below (s₁.setTop (mkF m 59 #[.val (.int p1)] [])) _
          refine XS.iconst X0.here hx rfl (hb hby own_d1_59) ?_
          show Steps p.tables e below (s₁.setTop (mkF m 60 #[.val (.int p1)] [(.int (1 : Int32))])) _
          refine XS.goto X0.here hx rfl (pc0 := 60) (pc' := 64) rfl (hb hby own_d1_60) (by decide) (by decide) ?_
          show Steps p.tables e below (s₁.setTop (mkF m 64 #[.val (.int p1)] [(.int (1 : Int32))])) _
          exact retN X0 hx (t := .boolean) Bd.returns (by simp) (hb hby own_d1_64) hr
        · show Q1 Z p1 h0 n0 _ s₁.heap _
          rw [e0]
          exact ⟨(congrArg (fun z => some (Value.int z)) (by unfold own_f_rm1; rw [if_pos hc3, if_neg hc16, if_pos hc22] : (1 : Int32) = (own_f_rm1 p1))), N0, rfl⟩
      · have pre24 : ∀ t, Steps p.tables e below (s₁.setTop (mkF m 28 #[.val (.int p1)] [(.int (13 : Int32)), (.int p1)])) t → Steps p.tables e below (s₁.setTop (entryFrame m #[(.int p1)] 1)) t := fun t k => by
          refine pre23 _ ?_
          show Steps p.tables e below (s₁.setTop (mkF m 22 #[.val (.int p1)] [(.int (9 : Int32)), (.int p1)])) _
          refine XS.icmpNo X0.here hx rfl (hb hby own_d1_22) rfl (feq hc22).1 ?_
          show Steps p.tables e below (s₁.setTop (mkF m 25 #[.val (.int p1)] [])) _
          refine XS.iloadN X0.here hx rfl (hb hby own_d1_25) rfl ?_
          show Steps p.tables e below (s₁.setTop (mkF m 26 #[.val (.int p1)] [(.int p1)])) _
          refine XS.bipush X0.here hx rfl (hb hby own_d1_26) ?_
          exact k
        by_cases hc28 : p1 = (13 : Int32)
        · obtain ⟨fs, hr, hrun, hended, hW, hsame⟩ := X0.leave (v := some (.int (1 : Int32))) (fun h => by rw [Bd.returns] at h; cases h)
          refine ⟨_, _, pre24 _ ?_, hrun, hended, _, _, rfl, ?_, ⟨_, rfl⟩, hW, hsame.mono (by decide) (by decide)⟩
          · show Steps p.tables e below (s₁.setTop (mkF m 28 #[.val (.int p1)] [(.int (13 : Int32)), (.int p1)])) _
            refine XS.icmpYes X0.here hx rfl (pc0 := 28) (pc' := 59) rfl (hb hby own_d1_28) rfl (teq hc28).1 (by decide) (by decide) ?_
            show Steps p.tables e below (s₁.setTop (mkF m 59 #[.val (.int p1)] [])) _
            refine XS.iconst X0.here hx rfl (hb hby own_d1_59) ?_
            show Steps p.tables e below (s₁.setTop (mkF m 60 #[.val (.int p1)] [(.int (1 : Int32))])) _
            refine XS.goto X0.here hx rfl (pc0 := 60) (pc' := 64) rfl (hb hby own_d1_60) (by decide) (by decide) ?_
            show Steps p.tables e below (s₁.setTop (mkF m 64 #[.val (.int p1)] [(.int (1 : Int32))])) _
            exact retN X0 hx (t := .boolean) Bd.returns (by simp) (hb hby own_d1_64) hr
          · show Q1 Z p1 h0 n0 _ s₁.heap _
            rw [e0]
            exact ⟨(congrArg (fun z => some (Value.int z)) (by unfold own_f_rm1; rw [if_pos hc3, if_neg hc16, if_neg hc22, if_pos hc28] : (1 : Int32) = (own_f_rm1 p1))), N0, rfl⟩
        · have pre25 : ∀ t, Steps p.tables e below (s₁.setTop (mkF m 35 #[.val (.int p1)] [(.int (57344 : Int32)), (.int p1)])) t → Steps p.tables e below (s₁.setTop (entryFrame m #[(.int p1)] 1)) t := fun t k => by
            refine pre24 _ ?_
            show Steps p.tables e below (s₁.setTop (mkF m 28 #[.val (.int p1)] [(.int (13 : Int32)), (.int p1)])) _
            refine XS.icmpNo X0.here hx rfl (hb hby own_d1_28) rfl (feq hc28).1 ?_
            show Steps p.tables e below (s₁.setTop (mkF m 31 #[.val (.int p1)] [])) _
            refine XS.iloadN X0.here hx rfl (hb hby own_d1_31) rfl ?_
            show Steps p.tables e below (s₁.setTop (mkF m 32 #[.val (.int p1)] [(.int p1)])) _
            refine X0.ldcwInt hx hown (mvT hZ (hw _ (List.mem_of_getElem? (i := 16) rfl))) (g := (mkF m 32 #[.val (.int p1)] [(.int p1)])) rfl (hb hby own_d1_32) _ ?_
            exact k
          by_cases hc35 : p1 < (57344 : Int32)
          · have pre26 : ∀ t, Steps p.tables e below (s₁.setTop (mkF m 49 #[.val (.int p1)] [(.int (65536 : Int32)), (.int p1)])) t → Steps p.tables e below (s₁.setTop (entryFrame m #[(.int p1)] 1)) t := fun t k => by
              refine pre25 _ ?_
              show Steps p.tables e below (s₁.setTop (mkF m 35 #[.val (.int p1)] [(.int (57344 : Int32)), (.int p1)])) _
              refine XS.icmpYes X0.here hx rfl (pc0 := 35) (pc' := 45) rfl (hb hby own_d1_35) rfl (tlt hc35).1 (by decide) (by decide) ?_
              show Steps p.tables e below (s₁.setTop (mkF m 45 #[.val (.int p1)] [])) _
              refine XS.iloadN X0.here hx rfl (hb hby own_d1_45) rfl ?_
              show Steps p.tables e below (s₁.setTop (mkF m 46 #[.val (.int p1)] [(.int p1)])) _
              refine X0.ldcwInt hx hown (mvT hZ (hw _ (List.mem_of_getElem? (i := 17) rfl))) (g := (mkF m 46 #[.val (.int p1)] [(.int p1)])) rfl (hb hby own_d1_46) _ ?_
              exact k
            by_cases hc49 : p1 < (65536 : Int32)
            · obtain ⟨fs, hr, hrun, hended, hW, hsame⟩ := X0.leave (v := some (.int (0 : Int32))) (fun h => by rw [Bd.returns] at h; cases h)
              refine ⟨_, _, pre26 _ ?_, hrun, hended, _, _, rfl, ?_, ⟨_, rfl⟩, hW, hsame.mono (by decide) (by decide)⟩
              · show Steps p.tables e below (s₁.setTop (mkF m 49 #[.val (.int p1)] [(.int (65536 : Int32)), (.int p1)])) _
                refine XS.icmpYes X0.here hx rfl (pc0 := 49) (pc' := 63) rfl (hb hby own_d1_49) rfl (tlt hc49).1 (by decide) (by decide) ?_
                show Steps p.tables e below (s₁.setTop (mkF m 63 #[.val (.int p1)] [])) _
                refine XS.iconst X0.here hx rfl (hb hby own_d1_63) ?_
                show Steps p.tables e below (s₁.setTop (mkF m 64 #[.val (.int p1)] [(.int (0 : Int32))])) _
                exact retN X0 hx (t := .boolean) Bd.returns (by simp) (hb hby own_d1_64) hr
              · show Q1 Z p1 h0 n0 _ s₁.heap _
                rw [e0]
                exact ⟨(congrArg (fun z => some (Value.int z)) (by unfold own_f_rm1; rw [if_pos hc3, if_neg hc16, if_neg hc22, if_neg hc28, if_pos hc35, if_pos hc49] : (0 : Int32) = (own_f_rm1 p1))), N0, rfl⟩
            · have pre27 : ∀ t, Steps p.tables e below (s₁.setTop (mkF m 56 #[.val (.int p1)] [(.int (1114111 : Int32)), (.int p1)])) t → Steps p.tables e below (s₁.setTop (entryFrame m #[(.int p1)] 1)) t := fun t k => by
                refine pre26 _ ?_
                show Steps p.tables e below (s₁.setTop (mkF m 49 #[.val (.int p1)] [(.int (65536 : Int32)), (.int p1)])) _
                refine XS.icmpNo X0.here hx rfl (hb hby own_d1_49) rfl (flt hc49).1 ?_
                show Steps p.tables e below (s₁.setTop (mkF m 52 #[.val (.int p1)] [])) _
                refine XS.iloadN X0.here hx rfl (hb hby own_d1_52) rfl ?_
                show Steps p.tables e below (s₁.setTop (mkF m 53 #[.val (.int p1)] [(.int p1)])) _
                refine X0.ldcwInt hx hown (mvT hZ (hw _ (List.mem_of_getElem? (i := 25) rfl))) (g := (mkF m 53 #[.val (.int p1)] [(.int p1)])) rfl (hb hby own_d1_53) _ ?_
                exact k
              by_cases hc56 : (1114111 : Int32) < p1
              · obtain ⟨fs, hr, hrun, hended, hW, hsame⟩ := X0.leave (v := some (.int (0 : Int32))) (fun h => by rw [Bd.returns] at h; cases h)
                refine ⟨_, _, pre27 _ ?_, hrun, hended, _, _, rfl, ?_, ⟨_, rfl⟩, hW, hsame.mono (by decide) (by decide)⟩
                · show Steps p.tables e below (s₁.setTop (mkF m 56 #[.val (.int p1)] [(.int (1114111 : Int32)), (.int p1)])) _
                  refine XS.icmpYes X0.here hx rfl (pc0 := 56) (pc' := 63) rfl (hb hby own_d1_56) rfl (tlt hc56).2.2.1 (by decide) (by decide) ?_
                  show Steps p.tables e below (s₁.setTop (mkF m 63 #[.val (.int p1)] [])) _
                  refine XS.iconst X0.here hx rfl (hb hby own_d1_63) ?_
                  show Steps p.tables e below (s₁.setTop (mkF m 64 #[.val (.int p1)] [(.int (0 : Int32))])) _
                  exact retN X0 hx (t := .boolean) Bd.returns (by simp) (hb hby own_d1_64) hr
                · show Q1 Z p1 h0 n0 _ s₁.heap _
                  rw [e0]
                  exact ⟨(congrArg (fun z => some (Value.int z)) (by unfold own_f_rm1; rw [if_pos hc3, if_neg hc16, if_neg hc22, if_neg hc28, if_pos hc35, if_neg hc49, if_pos hc56] : (0 : Int32) = (own_f_rm1 p1))), N0, rfl⟩
              · obtain ⟨fs, hr, hrun, hended, hW, hsame⟩ := X0.leave (v := some (.int (1 : Int32))) (fun h => by rw [Bd.returns] at h; cases h)
                refine ⟨_, _, pre27 _ ?_, hrun, hended, _, _, rfl, ?_, ⟨_, rfl⟩, hW, hsame.mono (by decide) (by decide)⟩
                · show Steps p.tables e below (s₁.setTop (mkF m 56 #[.val (.int p1)] [(.int (1114111 : Int32)), (.int p1)])) _
                  refine XS.icmpNo X0.here hx rfl (hb hby own_d1_56) rfl (flt hc56).2.2.1 ?_
                  show Steps p.tables e below (s₁.setTop (mkF m 59 #[.val (.int p1)] [])) _
                  refine XS.iconst X0.here hx rfl (hb hby own_d1_59) ?_
                  show Steps p.tables e below (s₁.setTop (mkF m 60 #[.val (.int p1)] [(.int (1 : Int32))])) _
                  refine XS.goto X0.here hx rfl (pc0 := 60) (pc' := 64) rfl (hb hby own_d1_60) (by decide) (by decide) ?_
                  show Steps p.tables e below (s₁.setTop (mkF m 64 #[.val (.int p1)] [(.int (1 : Int32))])) _
                  exact retN X0 hx (t := .boolean) Bd.returns (by simp) (hb hby own_d1_64) hr
                · show Q1 Z p1 h0 n0 _ s₁.heap _
                  rw [e0]
                  exact ⟨(congrArg (fun z => some (Value.int z)) (by unfold own_f_rm1; rw [if_pos hc3, if_neg hc16, if_neg hc22, if_neg hc28, if_pos hc35, if_neg hc49, if_neg hc56] : (1 : Int32) = (own_f_rm1 p1))), N0, rfl⟩
          · have pre28 : ∀ t, Steps p.tables e below (s₁.setTop (mkF m 42 #[.val (.int p1)] [(.int (65533 : Int32)), (.int p1)])) t → Steps p.tables e below (s₁.setTop (entryFrame m #[(.int p1)] 1)) t := fun t k => by
              refine pre25 _ ?_
              show Steps p.tables e below (s₁.setTop (mkF m 35 #[.val (.int p1)] [(.int (57344 : Int32)), (.int p1)])) _
              refine XS.icmpNo X0.here hx rfl (hb hby own_d1_35) rfl (flt hc35).1 ?_
              show Steps p.tables e below (s₁.setTop (mkF m 38 #[.val (.int p1)] [])) _
              refine XS.iloadN X0.here hx rfl (hb hby own_d1_38) rfl ?_
              show Steps p.tables e below (s₁.setTop (mkF m 39 #[.val (.int p1)] [(.int p1)])) _
              refine X0.ldcwInt hx hown (mvT hZ (hw _ (List.mem_of_getElem? (i := 24) rfl))) (g := (mkF m 39 #[.val (.int p1)] [(.int p1)])) rfl (hb hby own_d1_39) _ ?_
              exact k
            by_cases hc42 : (65533 : Int32) < p1
            · have pre29 : ∀ t, Steps p.tables e below (s₁.setTop (mkF m 49 #[.val (.int p1)] [(.int (65536 : Int32)), (.int p1)])) t → Steps p.tables e below (s₁.setTop (entryFrame m #[(.int p1)] 1)) t := fun t k => by
                refine pre28 _ ?_
                show Steps p.tables e below (s₁.setTop (mkF m 42 #[.val (.int p1)] [(.int (65533 : Int32)), (.int p1)])) _
                refine XS.icmpNo X0.here hx rfl (hb hby own_d1_42) rfl (tlt hc42).2.2.2 ?_
                show Steps p.tables e below (s₁.setTop (mkF m 45 #[.val (.int p1)] [])) _
                refine XS.iloadN X0.here hx rfl (hb hby own_d1_45) rfl ?_
                show Steps p.tables e below (s₁.setTop (mkF m 46 #[.val (.int p1)] [(.int p1)])) _
                refine X0.ldcwInt hx hown (mvT hZ (hw _ (List.mem_of_getElem? (i := 17) rfl))) (g := (mkF m 46 #[.val (.int p1)] [(.int p1)])) rfl (hb hby own_d1_46) _ ?_
                exact k
              by_cases hc49 : p1 < (65536 : Int32)
              · obtain ⟨fs, hr, hrun, hended, hW, hsame⟩ := X0.leave (v := some (.int (0 : Int32))) (fun h => by rw [Bd.returns] at h; cases h)
                refine ⟨_, _, pre29 _ ?_, hrun, hended, _, _, rfl, ?_, ⟨_, rfl⟩, hW, hsame.mono (by decide) (by decide)⟩
                · show Steps p.tables e below (s₁.setTop (mkF m 49 #[.val (.int p1)] [(.int (65536 : Int32)), (.int p1)])) _
                  refine XS.icmpYes X0.here hx rfl (pc0 := 49) (pc' := 63) rfl (hb hby own_d1_49) rfl (tlt hc49).1 (by decide) (by decide) ?_
                  show Steps p.tables e below (s₁.setTop (mkF m 63 #[.val (.int p1)] [])) _
                  refine XS.iconst X0.here hx rfl (hb hby own_d1_63) ?_
                  show Steps p.tables e below (s₁.setTop (mkF m 64 #[.val (.int p1)] [(.int (0 : Int32))])) _
                  exact retN X0 hx (t := .boolean) Bd.returns (by simp) (hb hby own_d1_64) hr
                · show Q1 Z p1 h0 n0 _ s₁.heap _
                  rw [e0]
                  exact ⟨(congrArg (fun z => some (Value.int z)) (by unfold own_f_rm1; rw [if_pos hc3, if_neg hc16, if_neg hc22, if_neg hc28, if_neg hc35, if_pos hc42, if_pos hc49] : (0 : Int32) = (own_f_rm1 p1))), N0, rfl⟩
              · have pre30 : ∀ t, Steps p.tables e below (s₁.setTop (mkF m 56 #[.val (.int p1)] [(.int (1114111 : Int32)), (.int p1)])) t → Steps p.tables e below (s₁.setTop (entryFrame m #[(.int p1)] 1)) t := fun t k => by
                  refine pre29 _ ?_
                  show Steps p.tables e below (s₁.setTop (mkF m 49 #[.val (.int p1)] [(.int (65536 : Int32)), (.int p1)])) _
                  refine XS.icmpNo X0.here hx rfl (hb hby own_d1_49) rfl (flt hc49).1 ?_
                  show Steps p.tables e below (s₁.setTop (mkF m 52 #[.val (.int p1)] [])) _
                  refine XS.iloadN X0.here hx rfl (hb hby own_d1_52) rfl ?_
                  show Steps p.tables e below (s₁.setTop (mkF m 53 #[.val (.int p1)] [(.int p1)])) _
                  refine X0.ldcwInt hx hown (mvT hZ (hw _ (List.mem_of_getElem? (i := 25) rfl))) (g := (mkF m 53 #[.val (.int p1)] [(.int p1)])) rfl (hb hby own_d1_53) _ ?_
                  exact k
                by_cases hc56 : (1114111 : Int32) < p1
                · obtain ⟨fs, hr, hrun, hended, hW, hsame⟩ := X0.leave (v := some (.int (0 : Int32))) (fun h => by rw [Bd.returns] at h; cases h)
                  refine ⟨_, _, pre30 _ ?_, hrun, hended, _, _, rfl, ?_, ⟨_, rfl⟩, hW, hsame.mono (by decide) (by decide)⟩
                  · show Steps p.tables e below (s₁.setTop (mkF m 56 #[.val (.int p1)] [(.int (1114111 : Int32)), (.int p1)])) _
                    refine XS.icmpYes X0.here hx rfl (pc0 := 56) (pc' := 63) rfl (hb hby own_d1_56) rfl (tlt hc56).2.2.1 (by decide) (by decide) ?_
                    show Steps p.tables e below (s₁.setTop (mkF m 63 #[.val (.int p1)] [])) _
                    refine XS.iconst X0.here hx rfl (hb hby own_d1_63) ?_
                    show Steps p.tables e below (s₁.setTop (mkF m 64 #[.val (.int p1)] [(.int (0 : Int32))])) _
                    exact retN X0 hx (t := .boolean) Bd.returns (by simp) (hb hby own_d1_64) hr
                  · show Q1 Z p1 h0 n0 _ s₁.heap _
                    rw [e0]
                    exact ⟨(congrArg (fun z => some (Value.int z)) (by unfold own_f_rm1; rw [if_pos hc3, if_neg hc16, if_neg hc22, if_neg hc28, if_neg hc35, if_pos hc42, if_neg hc49, if_pos hc56] : (0 : Int32) = (own_f_rm1 p1))), N0, rfl⟩
                · obtain ⟨fs, hr, hrun, hended, hW, hsame⟩ := X0.leave (v := some (.int (1 : Int32))) (fun h => by rw [Bd.returns] at h; cases h)
                  refine ⟨_, _, pre30 _ ?_, hrun, hended, _, _, rfl, ?_, ⟨_, rfl⟩, hW, hsame.mono (by decide) (by decide)⟩
                  · show Steps p.tables e below (s₁.setTop (mkF m 56 #[.val (.int p1)] [(.int (1114111 : Int32)), (.int p1)])) _
                    refine XS.icmpNo X0.here hx rfl (hb hby own_d1_56) rfl (flt hc56).2.2.1 ?_
                    show Steps p.tables e below (s₁.setTop (mkF m 59 #[.val (.int p1)] [])) _
                    refine XS.iconst X0.here hx rfl (hb hby own_d1_59) ?_
                    show Steps p.tables e below (s₁.setTop (mkF m 60 #[.val (.int p1)] [(.int (1 : Int32))])) _
                    refine XS.goto X0.here hx rfl (pc0 := 60) (pc' := 64) rfl (hb hby own_d1_60) (by decide) (by decide) ?_
                    show Steps p.tables e below (s₁.setTop (mkF m 64 #[.val (.int p1)] [(.int (1 : Int32))])) _
                    exact retN X0 hx (t := .boolean) Bd.returns (by simp) (hb hby own_d1_64) hr
                  · show Q1 Z p1 h0 n0 _ s₁.heap _
                    rw [e0]
                    exact ⟨(congrArg (fun z => some (Value.int z)) (by unfold own_f_rm1; rw [if_pos hc3, if_neg hc16, if_neg hc22, if_neg hc28, if_neg hc35, if_pos hc42, if_neg hc49, if_neg hc56] : (1 : Int32) = (own_f_rm1 p1))), N0, rfl⟩
            · obtain ⟨fs, hr, hrun, hended, hW, hsame⟩ := X0.leave (v := some (.int (1 : Int32))) (fun h => by rw [Bd.returns] at h; cases h)
              refine ⟨_, _, pre28 _ ?_, hrun, hended, _, _, rfl, ?_, ⟨_, rfl⟩, hW, hsame.mono (by decide) (by decide)⟩
              · show Steps p.tables e below (s₁.setTop (mkF m 42 #[.val (.int p1)] [(.int (65533 : Int32)), (.int p1)])) _
                refine XS.icmpYes X0.here hx rfl (pc0 := 42) (pc' := 59) rfl (hb hby own_d1_42) rfl (flt hc42).2.2.2 (by decide) (by decide) ?_
                show Steps p.tables e below (s₁.setTop (mkF m 59 #[.val (.int p1)] [])) _
                refine XS.iconst X0.here hx rfl (hb hby own_d1_59) ?_
                show Steps p.tables e below (s₁.setTop (mkF m 60 #[.val (.int p1)] [(.int (1 : Int32))])) _
                refine XS.goto X0.here hx rfl (pc0 := 60) (pc' := 64) rfl (hb hby own_d1_60) (by decide) (by decide) ?_
                show Steps p.tables e below (s₁.setTop (mkF m 64 #[.val (.int p1)] [(.int (1 : Int32))])) _
                exact retN X0 hx (t := .boolean) Bd.returns (by simp) (hb hby own_d1_64) hr
              · show Q1 Z p1 h0 n0 _ s₁.heap _
                rw [e0]
                exact ⟨(congrArg (fun z => some (Value.int z)) (by unfold own_f_rm1; rw [if_pos hc3, if_neg hc16, if_neg hc22, if_neg hc28, if_neg hc35, if_neg hc42] : (1 : Int32) = (own_f_rm1 p1))), N0, rfl⟩
  · have pre31 : ∀ t, Steps p.tables e below (s₁.setTop (mkF m 10 #[.val (.int p1)] [(.int (55295 : Int32)), (.int p1)])) t → Steps p.tables e below (s₁.setTop (entryFrame m #[(.int p1)] 1)) t := fun t k => by
      refine pre21 _ ?_
      show Steps p.tables e below (s₁.setTop (mkF m 3 #[.val (.int p1)] [(.int (32 : Int32)), (.int p1)])) _
      refine XS.icmpNo X0.here hx rfl (hb hby own_d1_3) rfl (flt hc3).1 ?_
      show Steps p.tables e below (s₁.setTop (mkF m 6 #[.val (.int p1)] [])) _
      refine XS.iloadN X0.here hx rfl (hb hby own_d1_6) rfl ?_
      show Steps p.tables e below (s₁.setTop (mkF m 7 #[.val (.int p1)] [(.int p1)])) _
      refine X0.ldcwInt hx hown (mvT hZ (hw _ (List.mem_of_getElem? (i := 22) rfl))) (g := (mkF m 7 #[.val (.int p1)] [(.int p1)])) rfl (hb hby own_d1_7) _ ?_
      exact k
    by_cases hc10 : (55295 : Int32) < p1
    · have pre32 : ∀ t, Steps p.tables e below (s₁.setTop (mkF m 16 #[.val (.int p1)] [(.int (10 : Int32)), (.int p1)])) t → Steps p.tables e below (s₁.setTop (entryFrame m #[(.int p1)] 1)) t := fun t k => by
        refine pre31 _ ?_
        show Steps p.tables e below (s₁.setTop (mkF m 10 #[.val (.int p1)] [(.int (55295 : Int32)), (.int p1)])) _
        refine XS.icmpNo X0.here hx rfl (hb hby own_d1_10) rfl (tlt hc10).2.2.2 ?_
        show Steps p.tables e below (s₁.setTop (mkF m 13 #[.val (.int p1)] [])) _
        refine XS.iloadN X0.here hx rfl (hb hby own_d1_13) rfl ?_
        show Steps p.tables e below (s₁.setTop (mkF m 14 #[.val (.int p1)] [(.int p1)])) _
        refine XS.bipush X0.here hx rfl (hb hby own_d1_14) ?_
        exact k
      by_cases hc16 : p1 = (10 : Int32)
      · obtain ⟨fs, hr, hrun, hended, hW, hsame⟩ := X0.leave (v := some (.int (1 : Int32))) (fun h => by rw [Bd.returns] at h; cases h)
        refine ⟨_, _, pre32 _ ?_, hrun, hended, _, _, rfl, ?_, ⟨_, rfl⟩, hW, hsame.mono (by decide) (by decide)⟩
        · show Steps p.tables e below (s₁.setTop (mkF m 16 #[.val (.int p1)] [(.int (10 : Int32)), (.int p1)])) _
          refine XS.icmpYes X0.here hx rfl (pc0 := 16) (pc' := 59) rfl (hb hby own_d1_16) rfl (teq hc16).1 (by decide) (by decide) ?_
          show Steps p.tables e below (s₁.setTop (mkF m 59 #[.val (.int p1)] [])) _
          refine XS.iconst X0.here hx rfl (hb hby own_d1_59) ?_
          show Steps p.tables e below (s₁.setTop (mkF m 60 #[.val (.int p1)] [(.int (1 : Int32))])) _
          refine XS.goto X0.here hx rfl (pc0 := 60) (pc' := 64) rfl (hb hby own_d1_60) (by decide) (by decide) ?_
          show Steps p.tables e below (s₁.setTop (mkF m 64 #[.val (.int p1)] [(.int (1 : Int32))])) _
          exact retN X0 hx (t := .boolean) Bd.returns (by simp) (hb hby own_d1_64) hr
        · show Q1 Z p1 h0 n0 _ s₁.heap _
          rw [e0]
          exact ⟨(congrArg (fun z => some (Value.int z)) (by unfold own_f_rm1; rw [if_neg hc3, if_pos hc10, if_pos hc16] : (1 : Int32) = (own_f_rm1 p1))), N0, rfl⟩
      · have pre33 : ∀ t, Steps p.tables e below (s₁.setTop (mkF m 22 #[.val (.int p1)] [(.int (9 : Int32)), (.int p1)])) t → Steps p.tables e below (s₁.setTop (entryFrame m #[(.int p1)] 1)) t := fun t k => by
          refine pre32 _ ?_
          show Steps p.tables e below (s₁.setTop (mkF m 16 #[.val (.int p1)] [(.int (10 : Int32)), (.int p1)])) _
          refine XS.icmpNo X0.here hx rfl (hb hby own_d1_16) rfl (feq hc16).1 ?_
          show Steps p.tables e below (s₁.setTop (mkF m 19 #[.val (.int p1)] [])) _
          refine XS.iloadN X0.here hx rfl (hb hby own_d1_19) rfl ?_
          show Steps p.tables e below (s₁.setTop (mkF m 20 #[.val (.int p1)] [(.int p1)])) _
          refine XS.bipush X0.here hx rfl (hb hby own_d1_20) ?_
          exact k
        by_cases hc22 : p1 = (9 : Int32)
        · obtain ⟨fs, hr, hrun, hended, hW, hsame⟩ := X0.leave (v := some (.int (1 : Int32))) (fun h => by rw [Bd.returns] at h; cases h)
          refine ⟨_, _, pre33 _ ?_, hrun, hended, _, _, rfl, ?_, ⟨_, rfl⟩, hW, hsame.mono (by decide) (by decide)⟩
          · show Steps p.tables e below (s₁.setTop (mkF m 22 #[.val (.int p1)] [(.int (9 : Int32)), (.int p1)])) _
            refine XS.icmpYes X0.here hx rfl (pc0 := 22) (pc' := 59) rfl (hb hby own_d1_22) rfl (teq hc22).1 (by decide) (by decide) ?_
            show Steps p.tables e below (s₁.setTop (mkF m 59 #[.val (.int p1)] [])) _
            refine XS.iconst X0.here hx rfl (hb hby own_d1_59) ?_
            show Steps p.tables e below (s₁.setTop (mkF m 60 #[.val (.int p1)] [(.int (1 : Int32))])) _
            refine XS.goto X0.here hx rfl (pc0 := 60) (pc' := 64) rfl (hb hby own_d1_60) (by decide) (by decide) ?_
            show Steps p.tables e below (s₁.setTop (mkF m 64 #[.val (.int p1)] [(.int (1 : Int32))])) _
            exact retN X0 hx (t := .boolean) Bd.returns (by simp) (hb hby own_d1_64) hr
          · show Q1 Z p1 h0 n0 _ s₁.heap _
            rw [e0]
            exact ⟨(congrArg (fun z => some (Value.int z)) (by unfold own_f_rm1; rw [if_neg hc3, if_pos hc10, if_neg hc16, if_pos hc22] : (1 : Int32) = (own_f_rm1 p1))), N0, rfl⟩
        · have pre34 : ∀ t, Steps p.tables e below (s₁.setTop (mkF m 28 #[.val (.int p1)] [(.int (13 : Int32)), (.int p1)])) t → Steps p.tables e below (s₁.setTop (entryFrame m #[(.int p1)] 1)) t := fun t k => by
            refine pre33 _ ?_
            show Steps p.tables e below (s₁.setTop (mkF m 22 #[.val (.int p1)] [(.int (9 : Int32)), (.int p1)])) _
            refine XS.icmpNo X0.here hx rfl (hb hby own_d1_22) rfl (feq hc22).1 ?_
            show Steps p.tables e below (s₁.setTop (mkF m 25 #[.val (.int p1)] [])) _
            refine XS.iloadN X0.here hx rfl (hb hby own_d1_25) rfl ?_
            show Steps p.tables e below (s₁.setTop (mkF m 26 #[.val (.int p1)] [(.int p1)])) _
            refine XS.bipush X0.here hx rfl (hb hby own_d1_26) ?_
            exact k
          by_cases hc28 : p1 = (13 : Int32)
          · obtain ⟨fs, hr, hrun, hended, hW, hsame⟩ := X0.leave (v := some (.int (1 : Int32))) (fun h => by rw [Bd.returns] at h; cases h)
            refine ⟨_, _, pre34 _ ?_, hrun, hended, _, _, rfl, ?_, ⟨_, rfl⟩, hW, hsame.mono (by decide) (by decide)⟩
            · show Steps p.tables e below (s₁.setTop (mkF m 28 #[.val (.int p1)] [(.int (13 : Int32)), (.int p1)])) _
              refine XS.icmpYes X0.here hx rfl (pc0 := 28) (pc' := 59) rfl (hb hby own_d1_28) rfl (teq hc28).1 (by decide) (by decide) ?_
              show Steps p.tables e below (s₁.setTop (mkF m 59 #[.val (.int p1)] [])) _
              refine XS.iconst X0.here hx rfl (hb hby own_d1_59) ?_
              show Steps p.tables e below (s₁.setTop (mkF m 60 #[.val (.int p1)] [(.int (1 : Int32))])) _
              refine XS.goto X0.here hx rfl (pc0 := 60) (pc' := 64) rfl (hb hby own_d1_60) (by decide) (by decide) ?_
              show Steps p.tables e below (s₁.setTop (mkF m 64 #[.val (.int p1)] [(.int (1 : Int32))])) _
              exact retN X0 hx (t := .boolean) Bd.returns (by simp) (hb hby own_d1_64) hr
            · show Q1 Z p1 h0 n0 _ s₁.heap _
              rw [e0]
              exact ⟨(congrArg (fun z => some (Value.int z)) (by unfold own_f_rm1; rw [if_neg hc3, if_pos hc10, if_neg hc16, if_neg hc22, if_pos hc28] : (1 : Int32) = (own_f_rm1 p1))), N0, rfl⟩
          · have pre35 : ∀ t, Steps p.tables e below (s₁.setTop (mkF m 35 #[.val (.int p1)] [(.int (57344 : Int32)), (.int p1)])) t → Steps p.tables e below (s₁.setTop (entryFrame m #[(.int p1)] 1)) t := fun t k => by
              refine pre34 _ ?_
              show Steps p.tables e below (s₁.setTop (mkF m 28 #[.val (.int p1)] [(.int (13 : Int32)), (.int p1)])) _
              refine XS.icmpNo X0.here hx rfl (hb hby own_d1_28) rfl (feq hc28).1 ?_
              show Steps p.tables e below (s₁.setTop (mkF m 31 #[.val (.int p1)] [])) _
              refine XS.iloadN X0.here hx rfl (hb hby own_d1_31) rfl ?_
              show Steps p.tables e below (s₁.setTop (mkF m 32 #[.val (.int p1)] [(.int p1)])) _
              refine X0.ldcwInt hx hown (mvT hZ (hw _ (List.mem_of_getElem? (i := 16) rfl))) (g := (mkF m 32 #[.val (.int p1)] [(.int p1)])) rfl (hb hby own_d1_32) _ ?_
              exact k
            by_cases hc35 : p1 < (57344 : Int32)
            · have pre36 : ∀ t, Steps p.tables e below (s₁.setTop (mkF m 49 #[.val (.int p1)] [(.int (65536 : Int32)), (.int p1)])) t → Steps p.tables e below (s₁.setTop (entryFrame m #[(.int p1)] 1)) t := fun t k => by
                refine pre35 _ ?_
                show Steps p.tables e below (s₁.setTop (mkF m 35 #[.val (.int p1)] [(.int (57344 : Int32)), (.int p1)])) _
                refine XS.icmpYes X0.here hx rfl (pc0 := 35) (pc' := 45) rfl (hb hby own_d1_35) rfl (tlt hc35).1 (by decide) (by decide) ?_
                show Steps p.tables e below (s₁.setTop (mkF m 45 #[.val (.int p1)] [])) _
                refine XS.iloadN X0.here hx rfl (hb hby own_d1_45) rfl ?_
                show Steps p.tables e below (s₁.setTop (mkF m 46 #[.val (.int p1)] [(.int p1)])) _
                refine X0.ldcwInt hx hown (mvT hZ (hw _ (List.mem_of_getElem? (i := 17) rfl))) (g := (mkF m 46 #[.val (.int p1)] [(.int p1)])) rfl (hb hby own_d1_46) _ ?_
                exact k
              by_cases hc49 : p1 < (65536 : Int32)
              · obtain ⟨fs, hr, hrun, hended, hW, hsame⟩ := X0.leave (v := some (.int (0 : Int32))) (fun h => by rw [Bd.returns] at h; cases h)
                refine ⟨_, _, pre36 _ ?_, hrun, hended, _, _, rfl, ?_, ⟨_, rfl⟩, hW, hsame.mono (by decide) (by decide)⟩
                · show Steps p.tables e below (s₁.setTop (mkF m 49 #[.val (.int p1)] [(.int (65536 : Int32)), (.int p1)])) _
                  refine XS.icmpYes X0.here hx rfl (pc0 := 49) (pc' := 63) rfl (hb hby own_d1_49) rfl (tlt hc49).1 (by decide) (by decide) ?_
                  show Steps p.tables e below (s₁.setTop (mkF m 63 #[.val (.int p1)] [])) _
                  refine XS.iconst X0.here hx rfl (hb hby own_d1_63) ?_
                  show Steps p.tables e below (s₁.setTop (mkF m 64 #[.val (.int p1)] [(.int (0 : Int32))])) _
                  exact retN X0 hx (t := .boolean) Bd.returns (by simp) (hb hby own_d1_64) hr
                · show Q1 Z p1 h0 n0 _ s₁.heap _
                  rw [e0]
                  exact ⟨(congrArg (fun z => some (Value.int z)) (by unfold own_f_rm1; rw [if_neg hc3, if_pos hc10, if_neg hc16, if_neg hc22, if_neg hc28, if_pos hc35, if_pos hc49] : (0 : Int32) = (own_f_rm1 p1))), N0, rfl⟩
              · have pre37 : ∀ t, Steps p.tables e below (s₁.setTop (mkF m 56 #[.val (.int p1)] [(.int (1114111 : Int32)), (.int p1)])) t → Steps p.tables e below (s₁.setTop (entryFrame m #[(.int p1)] 1)) t := fun t k => by
                  refine pre36 _ ?_
                  show Steps p.tables e below (s₁.setTop (mkF m 49 #[.val (.int p1)] [(.int (65536 : Int32)), (.int p1)])) _
                  refine XS.icmpNo X0.here hx rfl (hb hby own_d1_49) rfl (flt hc49).1 ?_
                  show Steps p.tables e below (s₁.setTop (mkF m 52 #[.val (.int p1)] [])) _
                  refine XS.iloadN X0.here hx rfl (hb hby own_d1_52) rfl ?_
                  show Steps p.tables e below (s₁.setTop (mkF m 53 #[.val (.int p1)] [(.int p1)])) _
                  refine X0.ldcwInt hx hown (mvT hZ (hw _ (List.mem_of_getElem? (i := 25) rfl))) (g := (mkF m 53 #[.val (.int p1)] [(.int p1)])) rfl (hb hby own_d1_53) _ ?_
                  exact k
                by_cases hc56 : (1114111 : Int32) < p1
                · obtain ⟨fs, hr, hrun, hended, hW, hsame⟩ := X0.leave (v := some (.int (0 : Int32))) (fun h => by rw [Bd.returns] at h; cases h)
                  refine ⟨_, _, pre37 _ ?_, hrun, hended, _, _, rfl, ?_, ⟨_, rfl⟩, hW, hsame.mono (by decide) (by decide)⟩
                  · show Steps p.tables e below (s₁.setTop (mkF m 56 #[.val (.int p1)] [(.int (1114111 : Int32)), (.int p1)])) _
                    refine XS.icmpYes X0.here hx rfl (pc0 := 56) (pc' := 63) rfl (hb hby own_d1_56) rfl (tlt hc56).2.2.1 (by decide) (by decide) ?_
                    show Steps p.tables e below (s₁.setTop (mkF m 63 #[.val (.int p1)] [])) _
                    refine XS.iconst X0.here hx rfl (hb hby own_d1_63) ?_
                    show Steps p.tables e below (s₁.setTop (mkF m 64 #[.val (.int p1)] [(.int (0 : Int32))])) _
                    exact retN X0 hx (t := .boolean) Bd.returns (by simp) (hb hby own_d1_64) hr
                  · show Q1 Z p1 h0 n0 _ s₁.heap _
                    rw [e0]
                    exact ⟨(congrArg (fun z => some (Value.int z)) (by unfold own_f_rm1; rw [if_neg hc3, if_pos hc10, if_neg hc16, if_neg hc22, if_neg hc28, if_pos hc35, if_neg hc49, if_pos hc56] : (0 : Int32) = (own_f_rm1 p1))), N0, rfl⟩
                · obtain ⟨fs, hr, hrun, hended, hW, hsame⟩ := X0.leave (v := some (.int (1 : Int32))) (fun h => by rw [Bd.returns] at h; cases h)
                  refine ⟨_, _, pre37 _ ?_, hrun, hended, _, _, rfl, ?_, ⟨_, rfl⟩, hW, hsame.mono (by decide) (by decide)⟩
                  · show Steps p.tables e below (s₁.setTop (mkF m 56 #[.val (.int p1)] [(.int (1114111 : Int32)), (.int p1)])) _
                    refine XS.icmpNo X0.here hx rfl (hb hby own_d1_56) rfl (flt hc56).2.2.1 ?_
                    show Steps p.tables e below (s₁.setTop (mkF m 59 #[.val (.int p1)] [])) _
                    refine XS.iconst X0.here hx rfl (hb hby own_d1_59) ?_
                    show Steps p.tables e below (s₁.setTop (mkF m 60 #[.val (.int p1)] [(.int (1 : Int32))])) _
                    refine XS.goto X0.here hx rfl (pc0 := 60) (pc' := 64) rfl (hb hby own_d1_60) (by decide) (by decide) ?_
                    show Steps p.tables e below (s₁.setTop (mkF m 64 #[.val (.int p1)] [(.int (1 : Int32))])) _
                    exact retN X0 hx (t := .boolean) Bd.returns (by simp) (hb hby own_d1_64) hr
                  · show Q1 Z p1 h0 n0 _ s₁.heap _
                    rw [e0]
                    exact ⟨(congrArg (fun z => some (Value.int z)) (by unfold own_f_rm1; rw [if_neg hc3, if_pos hc10, if_neg hc16, if_neg hc22, if_neg hc28, if_pos hc35, if_neg hc49, if_neg hc56] : (1 : Int32) = (own_f_rm1 p1))), N0, rfl⟩
            · have pre38 : ∀ t, Steps p.tables e below (s₁.setTop (mkF m 42 #[.val (.int p1)] [(.int (65533 : Int32)), (.int p1)])) t → Steps p.tables e below (s₁.setTop (entryFrame m #[(.int p1)] 1)) t := fun t k => by
                refine pre35 _ ?_
                show Steps p.tables e below (s₁.setTop (mkF m 35 #[.val (.int p1)] [(.int (57344 : Int32)), (.int p1)])) _
                refine XS.icmpNo X0.here hx rfl (hb hby own_d1_35) rfl (flt hc35).1 ?_
                show Steps p.tables e below (s₁.setTop (mkF m 38 #[.val (.int p1)] [])) _
                refine XS.iloadN X0.here hx rfl (hb hby own_d1_38) rfl ?_
                show Steps p.tables e below (s₁.setTop (mkF m 39 #[.val (.int p1)] [(.int p1)])) _
                refine X0.ldcwInt hx hown (mvT hZ (hw _ (List.mem_of_getElem? (i := 24) rfl))) (g := (mkF m 39 #[.val (.int p1)] [(.int p1)])) rfl (hb hby own_d1_39) _ ?_
                exact k
              by_cases hc42 : (65533 : Int32) < p1
              · have pre39 : ∀ t, Steps p.tables e below (s₁.setTop (mkF m 49 #[.val (.int p1)] [(.int (65536 : Int32)), (.int p1)])) t → Steps p.tables e below (s₁.setTop (entryFrame m #[(.int p1)] 1)) t := fun t k => by
                  refine pre38 _ ?_
                  show Steps p.tables e below (s₁.setTop (mkF m 42 #[.val (.int p1)] [(.int (65533 : Int32)), (.int p1)])) _
                  refine XS.icmpNo X0.here hx rfl (hb hby own_d1_42) rfl (tlt hc42).2.2.2 ?_
                  show Steps p.tables e below (s₁.setTop (mkF m 45 #[.val (.int p1)] [])) _
                  refine XS.iloadN X0.here hx rfl (hb hby own_d1_45) rfl ?_
                  show Steps p.tables e below (s₁.setTop (mkF m 46 #[.val (.int p1)] [(.int p1)])) _
                  refine X0.ldcwInt hx hown (mvT hZ (hw _ (List.mem_of_getElem? (i := 17) rfl))) (g := (mkF m 46 #[.val (.int p1)] [(.int p1)])) rfl (hb hby own_d1_46) _ ?_
                  exact k
                by_cases hc49 : p1 < (65536 : Int32)
                · obtain ⟨fs, hr, hrun, hended, hW, hsame⟩ := X0.leave (v := some (.int (0 : Int32))) (fun h => by rw [Bd.returns] at h; cases h)
                  refine ⟨_, _, pre39 _ ?_, hrun, hended, _, _, rfl, ?_, ⟨_, rfl⟩, hW, hsame.mono (by decide) (by decide)⟩
                  · show Steps p.tables e below (s₁.setTop (mkF m 49 #[.val (.int p1)] [(.int (65536 : Int32)), (.int p1)])) _
                    refine XS.icmpYes X0.here hx rfl (pc0 := 49) (pc' := 63) rfl (hb hby own_d1_49) rfl (tlt hc49).1 (by decide) (by decide) ?_
                    show Steps p.tables e below (s₁.setTop (mkF m 63 #[.val (.int p1)] [])) _
                    refine XS.iconst X0.here hx rfl (hb hby own_d1_63) ?_
                    show Steps p.tables e below (s₁.setTop (mkF m 64 #[.val (.int p1)] [(.int (0 : Int32))])) _
                    exact retN X0 hx (t := .boolean) Bd.returns (by simp) (hb hby own_d1_64) hr
                  · show Q1 Z p1 h0 n0 _ s₁.heap _
                    rw [e0]
                    exact ⟨(congrArg (fun z => some (Value.int z)) (by unfold own_f_rm1; rw [if_neg hc3, if_pos hc10, if_neg hc16, if_neg hc22, if_neg hc28, if_neg hc35, if_pos hc42, if_pos hc49] : (0 : Int32) = (own_f_rm1 p1))), N0, rfl⟩
                · have pre40 : ∀ t, Steps p.tables e below (s₁.setTop (mkF m 56 #[.val (.int p1)] [(.int (1114111 : Int32)), (.int p1)])) t → Steps p.tables e below (s₁.setTop (entryFrame m #[(.int p1)] 1)) t := fun t k => by
                    refine pre39 _ ?_
                    show Steps p.tables e below (s₁.setTop (mkF m 49 #[.val (.int p1)] [(.int (65536 : Int32)), (.int p1)])) _
                    refine XS.icmpNo X0.here hx rfl (hb hby own_d1_49) rfl (flt hc49).1 ?_
                    show Steps p.tables e below (s₁.setTop (mkF m 52 #[.val (.int p1)] [])) _
                    refine XS.iloadN X0.here hx rfl (hb hby own_d1_52) rfl ?_
                    show Steps p.tables e below (s₁.setTop (mkF m 53 #[.val (.int p1)] [(.int p1)])) _
                    refine X0.ldcwInt hx hown (mvT hZ (hw _ (List.mem_of_getElem? (i := 25) rfl))) (g := (mkF m 53 #[.val (.int p1)] [(.int p1)])) rfl (hb hby own_d1_53) _ ?_
                    exact k
                  by_cases hc56 : (1114111 : Int32) < p1
                  · obtain ⟨fs, hr, hrun, hended, hW, hsame⟩ := X0.leave (v := some (.int (0 : Int32))) (fun h => by rw [Bd.returns] at h; cases h)
                    refine ⟨_, _, pre40 _ ?_, hrun, hended, _, _, rfl, ?_, ⟨_, rfl⟩, hW, hsame.mono (by decide) (by decide)⟩
                    · show Steps p.tables e below (s₁.setTop (mkF m 56 #[.val (.int p1)] [(.int (1114111 : Int32)), (.int p1)])) _
                      refine XS.icmpYes X0.here hx rfl (pc0 := 56) (pc' := 63) rfl (hb hby own_d1_56) rfl (tlt hc56).2.2.1 (by decide) (by decide) ?_
                      show Steps p.tables e below (s₁.setTop (mkF m 63 #[.val (.int p1)] [])) _
                      refine XS.iconst X0.here hx rfl (hb hby own_d1_63) ?_
                      show Steps p.tables e below (s₁.setTop (mkF m 64 #[.val (.int p1)] [(.int (0 : Int32))])) _
                      exact retN X0 hx (t := .boolean) Bd.returns (by simp) (hb hby own_d1_64) hr
                    · show Q1 Z p1 h0 n0 _ s₁.heap _
                      rw [e0]
                      exact ⟨(congrArg (fun z => some (Value.int z)) (by unfold own_f_rm1; rw [if_neg hc3, if_pos hc10, if_neg hc16, if_neg hc22, if_neg hc28, if_neg hc35, if_pos hc42, if_neg hc49, if_pos hc56] : (0 : Int32) = (own_f_rm1 p1))), N0, rfl⟩
                  · obtain ⟨fs, hr, hrun, hended, hW, hsame⟩ := X0.leave (v := some (.int (1 : Int32))) (fun h => by rw [Bd.returns] at h; cases h)
                    refine ⟨_, _, pre40 _ ?_, hrun, hended, _, _, rfl, ?_, ⟨_, rfl⟩, hW, hsame.mono (by decide) (by decide)⟩
                    · show Steps p.tables e below (s₁.setTop (mkF m 56 #[.val (.int p1)] [(.int (1114111 : Int32)), (.int p1)])) _
                      refine XS.icmpNo X0.here hx rfl (hb hby own_d1_56) rfl (flt hc56).2.2.1 ?_
                      show Steps p.tables e below (s₁.setTop (mkF m 59 #[.val (.int p1)] [])) _
                      refine XS.iconst X0.here hx rfl (hb hby own_d1_59) ?_
                      show Steps p.tables e below (s₁.setTop (mkF m 60 #[.val (.int p1)] [(.int (1 : Int32))])) _
                      refine XS.goto X0.here hx rfl (pc0 := 60) (pc' := 64) rfl (hb hby own_d1_60) (by decide) (by decide) ?_
                      show Steps p.tables e below (s₁.setTop (mkF m 64 #[.val (.int p1)] [(.int (1 : Int32))])) _
                      exact retN X0 hx (t := .boolean) Bd.returns (by simp) (hb hby own_d1_64) hr
                    · show Q1 Z p1 h0 n0 _ s₁.heap _
                      rw [e0]
                      exact ⟨(congrArg (fun z => some (Value.int z)) (by unfold own_f_rm1; rw [if_neg hc3, if_pos hc10, if_neg hc16, if_neg hc22, if_neg hc28, if_neg hc35, if_pos hc42, if_neg hc49, if_neg hc56] : (1 : Int32) = (own_f_rm1 p1))), N0, rfl⟩
              · obtain ⟨fs, hr, hrun, hended, hW, hsame⟩ := X0.leave (v := some (.int (1 : Int32))) (fun h => by rw [Bd.returns] at h; cases h)
                refine ⟨_, _, pre38 _ ?_, hrun, hended, _, _, rfl, ?_, ⟨_, rfl⟩, hW, hsame.mono (by decide) (by decide)⟩
                · show Steps p.tables e below (s₁.setTop (mkF m 42 #[.val (.int p1)] [(.int (65533 : Int32)), (.int p1)])) _
                  refine XS.icmpYes X0.here hx rfl (pc0 := 42) (pc' := 59) rfl (hb hby own_d1_42) rfl (flt hc42).2.2.2 (by decide) (by decide) ?_
                  show Steps p.tables e below (s₁.setTop (mkF m 59 #[.val (.int p1)] [])) _
                  refine XS.iconst X0.here hx rfl (hb hby own_d1_59) ?_
                  show Steps p.tables e below (s₁.setTop (mkF m 60 #[.val (.int p1)] [(.int (1 : Int32))])) _
                  refine XS.goto X0.here hx rfl (pc0 := 60) (pc' := 64) rfl (hb hby own_d1_60) (by decide) (by decide) ?_
                  show Steps p.tables e below (s₁.setTop (mkF m 64 #[.val (.int p1)] [(.int (1 : Int32))])) _
                  exact retN X0 hx (t := .boolean) Bd.returns (by simp) (hb hby own_d1_64) hr
                · show Q1 Z p1 h0 n0 _ s₁.heap _
                  rw [e0]
                  exact ⟨(congrArg (fun z => some (Value.int z)) (by unfold own_f_rm1; rw [if_neg hc3, if_pos hc10, if_neg hc16, if_neg hc22, if_neg hc28, if_neg hc35, if_neg hc42] : (1 : Int32) = (own_f_rm1 p1))), N0, rfl⟩
    · obtain ⟨fs, hr, hrun, hended, hW, hsame⟩ := X0.leave (v := some (.int (1 : Int32))) (fun h => by rw [Bd.returns] at h; cases h)
      refine ⟨_, _, pre31 _ ?_, hrun, hended, _, _, rfl, ?_, ⟨_, rfl⟩, hW, hsame.mono (by decide) (by decide)⟩
      · show Steps p.tables e below (s₁.setTop (mkF m 10 #[.val (.int p1)] [(.int (55295 : Int32)), (.int p1)])) _
        refine XS.icmpYes X0.here hx rfl (pc0 := 10) (pc' := 59) rfl (hb hby own_d1_10) rfl (flt hc10).2.2.2 (by decide) (by decide) ?_
        show Steps p.tables e below (s₁.setTop (mkF m 59 #[.val (.int p1)] [])) _
        refine XS.iconst X0.here hx rfl (hb hby own_d1_59) ?_
        show Steps p.tables e below (s₁.setTop (mkF m 60 #[.val (.int p1)] [(.int (1 : Int32))])) _
        refine XS.goto X0.here hx rfl (pc0 := 60) (pc' := 64) rfl (hb hby own_d1_60) (by decide) (by decide) ?_
        show Steps p.tables e below (s₁.setTop (mkF m 64 #[.val (.int p1)] [(.int (1 : Int32))])) _
        exact retN X0 hx (t := .boolean) Bd.returns (by simp) (hb hby own_d1_64) hr
      · show Q1 Z p1 h0 n0 _ s₁.heap _
        rw [e0]
        exact ⟨(congrArg (fun z => some (Value.int z)) (by unfold own_f_rm1; rw [if_neg hc3, if_neg hc10] : (1 : Int32) = (own_f_rm1 p1))), N0, rfl⟩
theorem own_d2_0 : decode method_2_code 0 = .ok (.iload_n 0, 1) := by decide +kernel
theorem own_d2_1 : decode method_2_code 1 = .ok (.ifCond .ge 5, 3) := by decide +kernel
theorem own_d2_4 : decode method_2_code 4 = .ok (.iconst 0, 1) := by decide +kernel
theorem own_d2_5 : decode method_2_code 5 = .ok (.ireturn, 1) := by decide +kernel
theorem own_d2_6 : decode method_2_code 6 = .ok (.iload_n 0, 1) := by decide +kernel
theorem own_d2_7 : decode method_2_code 7 = .ok (.bipush 32, 2) := by decide +kernel
theorem own_d2_9 : decode method_2_code 9 = .ok (.if_icmp .ge 27, 3) := by decide +kernel
theorem own_d2_12 : decode method_2_code 12 = .ok (.iload_n 0, 1) := by decide +kernel
theorem own_d2_13 : decode method_2_code 13 = .ok (.bipush 9, 2) := by decide +kernel
theorem own_d2_15 : decode method_2_code 15 = .ok (.if_icmp .eq 15, 3) := by decide +kernel
theorem own_d2_30 : decode method_2_code 30 = .ok (.iconst 1, 1) := by decide +kernel
theorem own_d2_31 : decode method_2_code 31 = .ok (.goto 4, 3) := by decide +kernel
theorem own_d2_35 : decode method_2_code 35 = .ok (.ireturn, 1) := by decide +kernel
theorem own_d2_18 : decode method_2_code 18 = .ok (.iload_n 0, 1) := by decide +kernel
theorem own_d2_19 : decode method_2_code 19 = .ok (.bipush 10, 2) := by decide +kernel
theorem own_d2_21 : decode method_2_code 21 = .ok (.if_icmp .eq 9, 3) := by decide +kernel
theorem own_d2_24 : decode method_2_code 24 = .ok (.iload_n 0, 1) := by decide +kernel
theorem own_d2_25 : decode method_2_code 25 = .ok (.bipush 13, 2) := by decide +kernel
theorem own_d2_27 : decode method_2_code 27 = .ok (.if_icmp .ne 7, 3) := by decide +kernel
theorem own_d2_34 : decode method_2_code 34 = .ok (.iconst 0, 1) := by decide +kernel
theorem own_d2_36 : decode method_2_code 36 = .ok (.iload_n 0, 1) := by decide +kernel
theorem own_d2_37 : decode method_2_code 37 = .ok (.ldc 7, 2) := by decide +kernel
theorem own_d2_39 : decode method_2_code 39 = .ok (.if_icmp .lt 11, 3) := by decide +kernel
theorem own_d2_50 : decode method_2_code 50 = .ok (.iload_n 0, 1) := by decide +kernel
theorem own_d2_51 : decode method_2_code 51 = .ok (.ldc 9, 2) := by decide +kernel
theorem own_d2_53 : decode method_2_code 53 = .ok (.if_icmp .eq 9, 3) := by decide +kernel
theorem own_d2_62 : decode method_2_code 62 = .ok (.iconst 0, 1) := by decide +kernel
theorem own_d2_63 : decode method_2_code 63 = .ok (.ireturn, 1) := by decide +kernel
theorem own_d2_56 : decode method_2_code 56 = .ok (.iload_n 0, 1) := by decide +kernel
theorem own_d2_57 : decode method_2_code 57 = .ok (.ldc 10, 2) := by decide +kernel
theorem own_d2_59 : decode method_2_code 59 = .ok (.if_icmp .ne 5, 3) := by decide +kernel
theorem own_d2_64 : decode method_2_code 64 = .ok (.iload_n 0, 1) := by decide +kernel
theorem own_d2_65 : decode method_2_code 65 = .ok (.ldc 11, 2) := by decide +kernel
theorem own_d2_67 : decode method_2_code 67 = .ok (.if_icmp .gt 7, 3) := by decide +kernel
theorem own_d2_74 : decode method_2_code 74 = .ok (.iconst 0, 1) := by decide +kernel
theorem own_d2_75 : decode method_2_code 75 = .ok (.ireturn, 1) := by decide +kernel
theorem own_d2_70 : decode method_2_code 70 = .ok (.iconst 1, 1) := by decide +kernel
theorem own_d2_71 : decode method_2_code 71 = .ok (.goto 4, 3) := by decide +kernel
theorem own_d2_42 : decode method_2_code 42 = .ok (.iload_n 0, 1) := by decide +kernel
theorem own_d2_43 : decode method_2_code 43 = .ok (.ldc 8, 2) := by decide +kernel
theorem own_d2_45 : decode method_2_code 45 = .ok (.if_icmp .gt 5, 3) := by decide +kernel
theorem own_d2_48 : decode method_2_code 48 = .ok (.iconst 0, 1) := by decide +kernel
theorem own_d2_49 : decode method_2_code 49 = .ok (.ireturn, 1) := by decide +kernel
def own_f_rm2 (p1 : Int32) : Int32 := if p1 < (0 : Int32) then (0 : Int32) else if p1 < (32 : Int32) then if p1 = (9 : Int32) then (1 : Int32) else if p1 = (10 : Int32) then (1 : Int32) else if p1 = (13 : Int32) then (1 : Int32) else (0 : Int32) else if p1 < (55296 : Int32) then if p1 = (65534 : Int32) then (0 : Int32) else if p1 = (65535 : Int32) then (0 : Int32) else if (1114111 : Int32) < p1 then (0 : Int32) else (1 : Int32) else if (57343 : Int32) < p1 then if p1 = (65534 : Int32) then (0 : Int32) else if p1 = (65535 : Int32) then (0 : Int32) else if (1114111 : Int32) < p1 then (0 : Int32) else (1 : Int32) else (0 : Int32)
theorem own_pn1 : plainName "com/example/partybook/partybook/io/XmlParserIsCharacterPinLaw" = true := by first | (simp [plainName, overriddenIn]; done) | decide +kernel
theorem own_ef_rm2 (m : MethodId) (p1 : Int32) : entryFrame m #[(.int p1)] 1 = mkF m 0 #[.val (.int p1)] [] := by first | (simp [entryFrame, mkF, argsToLocals, Value.category]; done) | rfl
def Q2 (Z : State) (p1 : Int32) (h0 : Heap) (n0 : Nat) (v : Option Value) (h : Heap) (L : List Loc) : Prop := v = some (.int (own_f_rm2 p1)) ∧ Fr n0 L ∧ h = h0
set_option maxRecDepth 65536 in
set_option maxHeartbeats 40000000 in
theorem rm2 (l : Launch) (Z : State) (a0 : Array Value) (hw : ∀ d ∈ tables_1, d.before a0 Z = true) (ws : List Jvm.Cond) (p1 : Int32) (h0 : Heap) (n0 : Nat) (Z0 : n0 ≤ h0.size) :
    MetFree l (⟨"com/example/partybook/partybook/io/XmlParserIsCharacterPinLaw", "allowed", "(I)Z"⟩ : MethodName) (head1 (Jvm.Cond.code (⟨"com/example/partybook/partybook/io/XmlParserIsCharacterPinLaw", "allowed", "(I)Z"⟩ : MethodName) method_2_code 1 (some .boolean) :: ws) ({ frames := 0, cells := 0, slots := 0, locals := 0 } : Room)) (fun a U => a = #[(.int p1)] ∧ Z.Warmed39 U.vm ∧ U.heap = h0) (fun _ _ _ _ _ => True) (fun _ U o U' => ∃ v L, o = .returned v ∧ Q2 Z p1 h0 n0 v U'.heap L ∧ FrameEnd U o U' L ({ frames := 0, cells := 0, slots := 0, locals := 0 } : Room).cells ({ frames := 0, cells := 0, slots := 0, locals := 0 } : Room).slots) := by
  refine MetFree.of_bodySF (plainFor_of_name own_pn1) hisR ?_
  intro p e s m args below meth c s₁ Bd hml0 hP hK
  obtain ⟨rfl, hZ, hh⟩ := hP
  have hx := Bd.exec
  have hby := Bd.bytes
  have hml : c.maxLocals = 1 := hml0
  have hown : s.vm.findClass "com/example/partybook/partybook/io/XmlParserIsCharacterPinLaw" = some m.cls := findClass_of_methodNamed Bd.named
  have hnm := (name_of_methodNamed Bd.named Bd.method).1
  have X0 : Stand p l e ({ frames := 0, cells := 0, slots := 0, locals := 0 } : Room) s m #[(.int p1)] below meth c s₁ [] 0 0 := Stand.of_body Bd
  have e0 : s₁.heap = h0 := by rw [← hh, Bd.state]; rfl
  have N0 := Fr.nil n0
  have K0 : Keep h0 h0 [] := Keep.refl h0 _
  have pre0 : ∀ t, Steps p.tables e below (s₁.setTop (mkF m 0 #[.val (.int p1)] [])) t → Steps p.tables e below (s₁.setTop (entryFrame m #[(.int p1)] 1)) t := fun t k => castTop (own_ef_rm2 m p1) k
  have pre54 : ∀ t, Steps p.tables e below (s₁.setTop (mkF m 1 #[.val (.int p1)] [(.int p1)])) t → Steps p.tables e below (s₁.setTop (entryFrame m #[(.int p1)] 1)) t := fun t k => by
    refine pre0 _ ?_
    show Steps p.tables e below (s₁.setTop (mkF m 0 #[.val (.int p1)] [])) _
    refine XS.iloadN X0.here hx rfl (hb hby own_d2_0) rfl ?_
    exact k
  by_cases hc1 : p1 < (0 : Int32)
  · obtain ⟨fs, hr, hrun, hended, hW, hsame⟩ := X0.leave (v := some (.int (0 : Int32))) (fun h => by rw [Bd.returns] at h; cases h)
    refine ⟨_, _, pre54 _ ?_, hrun, hended, _, _, rfl, ?_, ⟨_, rfl⟩, hW, hsame.mono (by decide) (by decide)⟩
    · show Steps p.tables e below (s₁.setTop (mkF m 1 #[.val (.int p1)] [(.int p1)])) _
      refine XS.ifNo X0.here hx rfl (hb hby own_d2_1) rfl ((if0 _ _).trans (tlt hc1).2.1) ?_
      show Steps p.tables e below (s₁.setTop (mkF m 4 #[.val (.int p1)] [])) _
      refine XS.iconst X0.here hx rfl (hb hby own_d2_4) ?_
      show Steps p.tables e below (s₁.setTop (mkF m 5 #[.val (.int p1)] [(.int (0 : Int32))])) _
      exact retN X0 hx (t := .boolean) Bd.returns (by simp) (hb hby own_d2_5) hr
    · show Q2 Z p1 h0 n0 _ s₁.heap _
      rw [e0]
      exact ⟨(congrArg (fun z => some (Value.int z)) (by unfold own_f_rm2; rw [if_pos hc1] : (0 : Int32) = (own_f_rm2 p1))), N0, rfl⟩
  · have pre55 : ∀ t, Steps p.tables e below (s₁.setTop (mkF m 9 #[.val (.int p1)] [(.int (32 : Int32)), (.int p1)])) t → Steps p.tables e below (s₁.setTop (entryFrame m #[(.int p1)] 1)) t := fun t k => by
      refine pre54 _ ?_
      show Steps p.tables e below (s₁.setTop (mkF m 1 #[.val (.int p1)] [(.int p1)])) _
      refine XS.ifYes X0.here hx rfl (pc0 := 1) (pc' := 6) rfl (hb hby own_d2_1) rfl ((if0 _ _).trans (flt hc1).2.1) (by decide) (by decide) ?_
      show Steps p.tables e below (s₁.setTop (mkF m 6 #[.val (.int p1)] [])) _
      refine XS.iloadN X0.here hx rfl (hb hby own_d2_6) rfl ?_
      show Steps p.tables e below (s₁.setTop (mkF m 7 #[.val (.int p1)] [(.int p1)])) _
      refine XS.bipush X0.here hx rfl (hb hby own_d2_7) ?_
      exact k
    by_cases hc9 : p1 < (32 : Int32)
    · have pre56 : ∀ t, Steps p.tables e below (s₁.setTop (mkF m 15 #[.val (.int p1)] [(.int (9 : Int32)), (.int p1)])) t → Steps p.tables e below (s₁.setTop (entryFrame m #[(.int p1)] 1)) t := fun t k => by
        refine pre55 _ ?_
        show Steps p.tables e below (s₁.setTop (mkF m 9 #[.val (.int p1)] [(.int (32 : Int32)), (.int p1)])) _
        refine XS.icmpNo X0.here hx rfl (hb hby own_d2_9) rfl (tlt hc9).2.1 ?_
        show Steps p.tables e below (s₁.setTop (mkF m 12 #[.val (.int p1)] [])) _
        refine XS.iloadN X0.here hx rfl (hb hby own_d2_12) rfl ?_
        show Steps p.tables e below (s₁.setTop (mkF m 13 #[.val (.int p1)] [(.int p1)])) _
        refine XS.bipush X0.here hx rfl (hb hby own_d2_13) ?_
        exact k
      by_cases hc15 : p1 = (9 : Int32)
      · obtain ⟨fs, hr, hrun, hended, hW, hsame⟩ := X0.leave (v := some (.int (1 : Int32))) (fun h => by rw [Bd.returns] at h; cases h)
        refine ⟨_, _, pre56 _ ?_, hrun, hended, _, _, rfl, ?_, ⟨_, rfl⟩, hW, hsame.mono (by decide) (by decide)⟩
        · show Steps p.tables e below (s₁.setTop (mkF m 15 #[.val (.int p1)] [(.int (9 : Int32)), (.int p1)])) _
          refine XS.icmpYes X0.here hx rfl (pc0 := 15) (pc' := 30) rfl (hb hby own_d2_15) rfl (teq hc15).1 (by decide) (by decide) ?_
          show Steps p.tables e below (s₁.setTop (mkF m 30 #[.val (.int p1)] [])) _
          refine XS.iconst X0.here hx rfl (hb hby own_d2_30) ?_
          show Steps p.tables e below (s₁.setTop (mkF m 31 #[.val (.int p1)] [(.int (1 : Int32))])) _
          refine XS.goto X0.here hx rfl (pc0 := 31) (pc' := 35) rfl (hb hby own_d2_31) (by decide) (by decide) ?_
          show Steps p.tables e below (s₁.setTop (mkF m 35 #[.val (.int p1)] [(.int (1 : Int32))])) _
          exact retN X0 hx (t := .boolean) Bd.returns (by simp) (hb hby own_d2_35) hr
        · show Q2 Z p1 h0 n0 _ s₁.heap _
          rw [e0]
          exact ⟨(congrArg (fun z => some (Value.int z)) (by unfold own_f_rm2; rw [if_neg hc1, if_pos hc9, if_pos hc15] : (1 : Int32) = (own_f_rm2 p1))), N0, rfl⟩
      · have pre57 : ∀ t, Steps p.tables e below (s₁.setTop (mkF m 21 #[.val (.int p1)] [(.int (10 : Int32)), (.int p1)])) t → Steps p.tables e below (s₁.setTop (entryFrame m #[(.int p1)] 1)) t := fun t k => by
          refine pre56 _ ?_
          show Steps p.tables e below (s₁.setTop (mkF m 15 #[.val (.int p1)] [(.int (9 : Int32)), (.int p1)])) _
          refine XS.icmpNo X0.here hx rfl (hb hby own_d2_15) rfl (feq hc15).1 ?_
          show Steps p.tables e below (s₁.setTop (mkF m 18 #[.val (.int p1)] [])) _
          refine XS.iloadN X0.here hx rfl (hb hby own_d2_18) rfl ?_
          show Steps p.tables e below (s₁.setTop (mkF m 19 #[.val (.int p1)] [(.int p1)])) _
          refine XS.bipush X0.here hx rfl (hb hby own_d2_19) ?_
          exact k
        by_cases hc21 : p1 = (10 : Int32)
        · obtain ⟨fs, hr, hrun, hended, hW, hsame⟩ := X0.leave (v := some (.int (1 : Int32))) (fun h => by rw [Bd.returns] at h; cases h)
          refine ⟨_, _, pre57 _ ?_, hrun, hended, _, _, rfl, ?_, ⟨_, rfl⟩, hW, hsame.mono (by decide) (by decide)⟩
          · show Steps p.tables e below (s₁.setTop (mkF m 21 #[.val (.int p1)] [(.int (10 : Int32)), (.int p1)])) _
            refine XS.icmpYes X0.here hx rfl (pc0 := 21) (pc' := 30) rfl (hb hby own_d2_21) rfl (teq hc21).1 (by decide) (by decide) ?_
            show Steps p.tables e below (s₁.setTop (mkF m 30 #[.val (.int p1)] [])) _
            refine XS.iconst X0.here hx rfl (hb hby own_d2_30) ?_
            show Steps p.tables e below (s₁.setTop (mkF m 31 #[.val (.int p1)] [(.int (1 : Int32))])) _
            refine XS.goto X0.here hx rfl (pc0 := 31) (pc' := 35) rfl (hb hby own_d2_31) (by decide) (by decide) ?_
            show Steps p.tables e below (s₁.setTop (mkF m 35 #[.val (.int p1)] [(.int (1 : Int32))])) _
            exact retN X0 hx (t := .boolean) Bd.returns (by simp) (hb hby own_d2_35) hr
          · show Q2 Z p1 h0 n0 _ s₁.heap _
            rw [e0]
            exact ⟨(congrArg (fun z => some (Value.int z)) (by unfold own_f_rm2; rw [if_neg hc1, if_pos hc9, if_neg hc15, if_pos hc21] : (1 : Int32) = (own_f_rm2 p1))), N0, rfl⟩
        · have pre58 : ∀ t, Steps p.tables e below (s₁.setTop (mkF m 27 #[.val (.int p1)] [(.int (13 : Int32)), (.int p1)])) t → Steps p.tables e below (s₁.setTop (entryFrame m #[(.int p1)] 1)) t := fun t k => by
            refine pre57 _ ?_
            show Steps p.tables e below (s₁.setTop (mkF m 21 #[.val (.int p1)] [(.int (10 : Int32)), (.int p1)])) _
            refine XS.icmpNo X0.here hx rfl (hb hby own_d2_21) rfl (feq hc21).1 ?_
            show Steps p.tables e below (s₁.setTop (mkF m 24 #[.val (.int p1)] [])) _
            refine XS.iloadN X0.here hx rfl (hb hby own_d2_24) rfl ?_
            show Steps p.tables e below (s₁.setTop (mkF m 25 #[.val (.int p1)] [(.int p1)])) _
            refine XS.bipush X0.here hx rfl (hb hby own_d2_25) ?_
            exact k
          by_cases hc27 : p1 = (13 : Int32)
          · obtain ⟨fs, hr, hrun, hended, hW, hsame⟩ := X0.leave (v := some (.int (1 : Int32))) (fun h => by rw [Bd.returns] at h; cases h)
            refine ⟨_, _, pre58 _ ?_, hrun, hended, _, _, rfl, ?_, ⟨_, rfl⟩, hW, hsame.mono (by decide) (by decide)⟩
            · show Steps p.tables e below (s₁.setTop (mkF m 27 #[.val (.int p1)] [(.int (13 : Int32)), (.int p1)])) _
              refine XS.icmpNo X0.here hx rfl (hb hby own_d2_27) rfl (teq hc27).2 ?_
              show Steps p.tables e below (s₁.setTop (mkF m 30 #[.val (.int p1)] [])) _
              refine XS.iconst X0.here hx rfl (hb hby own_d2_30) ?_
              show Steps p.tables e below (s₁.setTop (mkF m 31 #[.val (.int p1)] [(.int (1 : Int32))])) _
              refine XS.goto X0.here hx rfl (pc0 := 31) (pc' := 35) rfl (hb hby own_d2_31) (by decide) (by decide) ?_
              show Steps p.tables e below (s₁.setTop (mkF m 35 #[.val (.int p1)] [(.int (1 : Int32))])) _
              exact retN X0 hx (t := .boolean) Bd.returns (by simp) (hb hby own_d2_35) hr
            · show Q2 Z p1 h0 n0 _ s₁.heap _
              rw [e0]
              exact ⟨(congrArg (fun z => some (Value.int z)) (by unfold own_f_rm2; rw [if_neg hc1, if_pos hc9, if_neg hc15, if_neg hc21, if_pos hc27] : (1 : Int32) = (own_f_rm2 p1))), N0, rfl⟩
          · obtain ⟨fs, hr, hrun, hended, hW, hsame⟩ := X0.leave (v := some (.int (0 : Int32))) (fun h => by rw [Bd.returns] at h; cases h)
            refine ⟨_, _, pre58 _ ?_, hrun, hended, _, _, rfl, ?_, ⟨_, rfl⟩, hW, hsame.mono (by decide) (by decide)⟩
            · show Steps p.tables e below (s₁.setTop (mkF m 27 #[.val (.int p1)] [(.int (13 : Int32)), (.int p1)])) _
              refine XS.icmpYes X0.here hx rfl (pc0 := 27) (pc' := 34) rfl (hb hby own_d2_27) rfl (feq hc27).2 (by decide) (by decide) ?_
              show Steps p.tables e below (s₁.setTop (mkF m 34 #[.val (.int p1)] [])) _
              refine XS.iconst X0.here hx rfl (hb hby own_d2_34) ?_
              show Steps p.tables e below (s₁.setTop (mkF m 35 #[.val (.int p1)] [(.int (0 : Int32))])) _
              exact retN X0 hx (t := .boolean) Bd.returns (by simp) (hb hby own_d2_35) hr
            · show Q2 Z p1 h0 n0 _ s₁.heap _
              rw [e0]
              exact ⟨(congrArg (fun z => some (Value.int z)) (by unfold own_f_rm2; rw [if_neg hc1, if_pos hc9, if_neg hc15, if_neg hc21, if_neg hc27] : (0 : Int32) = (own_f_rm2 p1))), N0, rfl⟩
    · have pre59 : ∀ t, Steps p.tables e below (s₁.setTop (mkF m 39 #[.val (.int p1)] [(.int (55296 : Int32)), (.int p1)])) t → Steps p.tables e below (s₁.setTop (entryFrame m #[(.int p1)] 1)) t := fun t k => by
        refine pre55 _ ?_
        show Steps p.tables e below (s₁.setTop (mkF m 9 #[.val (.int p1)] [(.int (32 : Int32)), (.int p1)])) _
        refine XS.icmpYes X0.here hx rfl (pc0 := 9) (pc' := 36) rfl (hb hby own_d2_9) rfl (flt hc9).2.1 (by decide) (by decide) ?_
        show Steps p.tables e below (s₁.setTop (mkF m 36 #[.val (.int p1)] [])) _
        refine XS.iloadN X0.here hx rfl (hb hby own_d2_36) rfl ?_
        show Steps p.tables e below (s₁.setTop (mkF m 37 #[.val (.int p1)] [(.int p1)])) _
        refine X0.ldcInt hx hown (mvT hZ (hw _ (List.mem_of_getElem? (i := 2) rfl))) (g := (mkF m 37 #[.val (.int p1)] [(.int p1)])) rfl (hb hby own_d2_37) _ ?_
        exact k
      by_cases hc39 : p1 < (55296 : Int32)
      · have pre60 : ∀ t, Steps p.tables e below (s₁.setTop (mkF m 53 #[.val (.int p1)] [(.int (65534 : Int32)), (.int p1)])) t → Steps p.tables e below (s₁.setTop (entryFrame m #[(.int p1)] 1)) t := fun t k => by
          refine pre59 _ ?_
          show Steps p.tables e below (s₁.setTop (mkF m 39 #[.val (.int p1)] [(.int (55296 : Int32)), (.int p1)])) _
          refine XS.icmpYes X0.here hx rfl (pc0 := 39) (pc' := 50) rfl (hb hby own_d2_39) rfl (tlt hc39).1 (by decide) (by decide) ?_
          show Steps p.tables e below (s₁.setTop (mkF m 50 #[.val (.int p1)] [])) _
          refine XS.iloadN X0.here hx rfl (hb hby own_d2_50) rfl ?_
          show Steps p.tables e below (s₁.setTop (mkF m 51 #[.val (.int p1)] [(.int p1)])) _
          refine X0.ldcInt hx hown (mvT hZ (hw _ (List.mem_of_getElem? (i := 23) rfl))) (g := (mkF m 51 #[.val (.int p1)] [(.int p1)])) rfl (hb hby own_d2_51) _ ?_
          exact k
        by_cases hc53 : p1 = (65534 : Int32)
        · obtain ⟨fs, hr, hrun, hended, hW, hsame⟩ := X0.leave (v := some (.int (0 : Int32))) (fun h => by rw [Bd.returns] at h; cases h)
          refine ⟨_, _, pre60 _ ?_, hrun, hended, _, _, rfl, ?_, ⟨_, rfl⟩, hW, hsame.mono (by decide) (by decide)⟩
          · show Steps p.tables e below (s₁.setTop (mkF m 53 #[.val (.int p1)] [(.int (65534 : Int32)), (.int p1)])) _
            refine XS.icmpYes X0.here hx rfl (pc0 := 53) (pc' := 62) rfl (hb hby own_d2_53) rfl (teq hc53).1 (by decide) (by decide) ?_
            show Steps p.tables e below (s₁.setTop (mkF m 62 #[.val (.int p1)] [])) _
            refine XS.iconst X0.here hx rfl (hb hby own_d2_62) ?_
            show Steps p.tables e below (s₁.setTop (mkF m 63 #[.val (.int p1)] [(.int (0 : Int32))])) _
            exact retN X0 hx (t := .boolean) Bd.returns (by simp) (hb hby own_d2_63) hr
          · show Q2 Z p1 h0 n0 _ s₁.heap _
            rw [e0]
            exact ⟨(congrArg (fun z => some (Value.int z)) (by unfold own_f_rm2; rw [if_neg hc1, if_neg hc9, if_pos hc39, if_pos hc53] : (0 : Int32) = (own_f_rm2 p1))), N0, rfl⟩
        · have pre61 : ∀ t, Steps p.tables e below (s₁.setTop (mkF m 59 #[.val (.int p1)] [(.int (65535 : Int32)), (.int p1)])) t → Steps p.tables e below (s₁.setTop (entryFrame m #[(.int p1)] 1)) t := fun t k => by
            refine pre60 _ ?_
            show Steps p.tables e below (s₁.setTop (mkF m 53 #[.val (.int p1)] [(.int (65534 : Int32)), (.int p1)])) _
            refine XS.icmpNo X0.here hx rfl (hb hby own_d2_53) rfl (feq hc53).1 ?_
            show Steps p.tables e below (s₁.setTop (mkF m 56 #[.val (.int p1)] [])) _
            refine XS.iloadN X0.here hx rfl (hb hby own_d2_56) rfl ?_
            show Steps p.tables e below (s₁.setTop (mkF m 57 #[.val (.int p1)] [(.int p1)])) _
            refine X0.ldcInt hx hown (mvT hZ (hw _ (List.mem_of_getElem? (i := 6) rfl))) (g := (mkF m 57 #[.val (.int p1)] [(.int p1)])) rfl (hb hby own_d2_57) _ ?_
            exact k
          by_cases hc59 : p1 = (65535 : Int32)
          · obtain ⟨fs, hr, hrun, hended, hW, hsame⟩ := X0.leave (v := some (.int (0 : Int32))) (fun h => by rw [Bd.returns] at h; cases h)
            refine ⟨_, _, pre61 _ ?_, hrun, hended, _, _, rfl, ?_, ⟨_, rfl⟩, hW, hsame.mono (by decide) (by decide)⟩
            · show Steps p.tables e below (s₁.setTop (mkF m 59 #[.val (.int p1)] [(.int (65535 : Int32)), (.int p1)])) _
              refine XS.icmpNo X0.here hx rfl (hb hby own_d2_59) rfl (teq hc59).2 ?_
              show Steps p.tables e below (s₁.setTop (mkF m 62 #[.val (.int p1)] [])) _
              refine XS.iconst X0.here hx rfl (hb hby own_d2_62) ?_
              show Steps p.tables e below (s₁.setTop (mkF m 63 #[.val (.int p1)] [(.int (0 : Int32))])) _
              exact retN X0 hx (t := .boolean) Bd.returns (by simp) (hb hby own_d2_63) hr
            · show Q2 Z p1 h0 n0 _ s₁.heap _
              rw [e0]
              exact ⟨(congrArg (fun z => some (Value.int z)) (by unfold own_f_rm2; rw [if_neg hc1, if_neg hc9, if_pos hc39, if_neg hc53, if_pos hc59] : (0 : Int32) = (own_f_rm2 p1))), N0, rfl⟩
          · have pre62 : ∀ t, Steps p.tables e below (s₁.setTop (mkF m 67 #[.val (.int p1)] [(.int (1114111 : Int32)), (.int p1)])) t → Steps p.tables e below (s₁.setTop (entryFrame m #[(.int p1)] 1)) t := fun t k => by
              refine pre61 _ ?_
              show Steps p.tables e below (s₁.setTop (mkF m 59 #[.val (.int p1)] [(.int (65535 : Int32)), (.int p1)])) _
              refine XS.icmpYes X0.here hx rfl (pc0 := 59) (pc' := 64) rfl (hb hby own_d2_59) rfl (feq hc59).2 (by decide) (by decide) ?_
              show Steps p.tables e below (s₁.setTop (mkF m 64 #[.val (.int p1)] [])) _
              refine XS.iloadN X0.here hx rfl (hb hby own_d2_64) rfl ?_
              show Steps p.tables e below (s₁.setTop (mkF m 65 #[.val (.int p1)] [(.int p1)])) _
              refine X0.ldcInt hx hown (mvT hZ (hw _ (List.mem_of_getElem? (i := 8) rfl))) (g := (mkF m 65 #[.val (.int p1)] [(.int p1)])) rfl (hb hby own_d2_65) _ ?_
              exact k
            by_cases hc67 : (1114111 : Int32) < p1
            · obtain ⟨fs, hr, hrun, hended, hW, hsame⟩ := X0.leave (v := some (.int (0 : Int32))) (fun h => by rw [Bd.returns] at h; cases h)
              refine ⟨_, _, pre62 _ ?_, hrun, hended, _, _, rfl, ?_, ⟨_, rfl⟩, hW, hsame.mono (by decide) (by decide)⟩
              · show Steps p.tables e below (s₁.setTop (mkF m 67 #[.val (.int p1)] [(.int (1114111 : Int32)), (.int p1)])) _
                refine XS.icmpYes X0.here hx rfl (pc0 := 67) (pc' := 74) rfl (hb hby own_d2_67) rfl (tlt hc67).2.2.1 (by decide) (by decide) ?_
                show Steps p.tables e below (s₁.setTop (mkF m 74 #[.val (.int p1)] [])) _
                refine XS.iconst X0.here hx rfl (hb hby own_d2_74) ?_
                show Steps p.tables e below (s₁.setTop (mkF m 75 #[.val (.int p1)] [(.int (0 : Int32))])) _
                exact retN X0 hx (t := .boolean) Bd.returns (by simp) (hb hby own_d2_75) hr
              · show Q2 Z p1 h0 n0 _ s₁.heap _
                rw [e0]
                exact ⟨(congrArg (fun z => some (Value.int z)) (by unfold own_f_rm2; rw [if_neg hc1, if_neg hc9, if_pos hc39, if_neg hc53, if_neg hc59, if_pos hc67] : (0 : Int32) = (own_f_rm2 p1))), N0, rfl⟩
            · obtain ⟨fs, hr, hrun, hended, hW, hsame⟩ := X0.leave (v := some (.int (1 : Int32))) (fun h => by rw [Bd.returns] at h; cases h)
              refine ⟨_, _, pre62 _ ?_, hrun, hended, _, _, rfl, ?_, ⟨_, rfl⟩, hW, hsame.mono (by decide) (by decide)⟩
              · show Steps p.tables e below (s₁.setTop (mkF m 67 #[.val (.int p1)] [(.int (1114111 : Int32)), (.int p1)])) _
                refine XS.icmpNo X0.here hx rfl (hb hby own_d2_67) rfl (flt hc67).2.2.1 ?_
                show Steps p.tables e below (s₁.setTop (mkF m 70 #[.val (.int p1)] [])) _
                refine XS.iconst X0.here hx rfl (hb hby own_d2_70) ?_
                show Steps p.tables e below (s₁.setTop (mkF m 71 #[.val (.int p1)] [(.int (1 : Int32))])) _
                refine XS.goto X0.here hx rfl (pc0 := 71) (pc' := 75) rfl (hb hby own_d2_71) (by decide) (by decide) ?_
                show Steps p.tables e below (s₁.setTop (mkF m 75 #[.val (.int p1)] [(.int (1 : Int32))])) _
                exact retN X0 hx (t := .boolean) Bd.returns (by simp) (hb hby own_d2_75) hr
              · show Q2 Z p1 h0 n0 _ s₁.heap _
                rw [e0]
                exact ⟨(congrArg (fun z => some (Value.int z)) (by unfold own_f_rm2; rw [if_neg hc1, if_neg hc9, if_pos hc39, if_neg hc53, if_neg hc59, if_neg hc67] : (1 : Int32) = (own_f_rm2 p1))), N0, rfl⟩
      · have pre63 : ∀ t, Steps p.tables e below (s₁.setTop (mkF m 45 #[.val (.int p1)] [(.int (57343 : Int32)), (.int p1)])) t → Steps p.tables e below (s₁.setTop (entryFrame m #[(.int p1)] 1)) t := fun t k => by
          refine pre59 _ ?_
          show Steps p.tables e below (s₁.setTop (mkF m 39 #[.val (.int p1)] [(.int (55296 : Int32)), (.int p1)])) _
          refine XS.icmpNo X0.here hx rfl (hb hby own_d2_39) rfl (flt hc39).1 ?_
          show Steps p.tables e below (s₁.setTop (mkF m 42 #[.val (.int p1)] [])) _
          refine XS.iloadN X0.here hx rfl (hb hby own_d2_42) rfl ?_
          show Steps p.tables e below (s₁.setTop (mkF m 43 #[.val (.int p1)] [(.int p1)])) _
          refine X0.ldcInt hx hown (mvT hZ (hw _ (List.mem_of_getElem? (i := 3) rfl))) (g := (mkF m 43 #[.val (.int p1)] [(.int p1)])) rfl (hb hby own_d2_43) _ ?_
          exact k
        by_cases hc45 : (57343 : Int32) < p1
        · have pre64 : ∀ t, Steps p.tables e below (s₁.setTop (mkF m 53 #[.val (.int p1)] [(.int (65534 : Int32)), (.int p1)])) t → Steps p.tables e below (s₁.setTop (entryFrame m #[(.int p1)] 1)) t := fun t k => by
            refine pre63 _ ?_
            show Steps p.tables e below (s₁.setTop (mkF m 45 #[.val (.int p1)] [(.int (57343 : Int32)), (.int p1)])) _
            refine XS.icmpYes X0.here hx rfl (pc0 := 45) (pc' := 50) rfl (hb hby own_d2_45) rfl (tlt hc45).2.2.1 (by decide) (by decide) ?_
            show Steps p.tables e below (s₁.setTop (mkF m 50 #[.val (.int p1)] [])) _
            refine XS.iloadN X0.here hx rfl (hb hby own_d2_50) rfl ?_
            show Steps p.tables e below (s₁.setTop (mkF m 51 #[.val (.int p1)] [(.int p1)])) _
            refine X0.ldcInt hx hown (mvT hZ (hw _ (List.mem_of_getElem? (i := 23) rfl))) (g := (mkF m 51 #[.val (.int p1)] [(.int p1)])) rfl (hb hby own_d2_51) _ ?_
            exact k
          by_cases hc53 : p1 = (65534 : Int32)
          · obtain ⟨fs, hr, hrun, hended, hW, hsame⟩ := X0.leave (v := some (.int (0 : Int32))) (fun h => by rw [Bd.returns] at h; cases h)
            refine ⟨_, _, pre64 _ ?_, hrun, hended, _, _, rfl, ?_, ⟨_, rfl⟩, hW, hsame.mono (by decide) (by decide)⟩
            · show Steps p.tables e below (s₁.setTop (mkF m 53 #[.val (.int p1)] [(.int (65534 : Int32)), (.int p1)])) _
              refine XS.icmpYes X0.here hx rfl (pc0 := 53) (pc' := 62) rfl (hb hby own_d2_53) rfl (teq hc53).1 (by decide) (by decide) ?_
              show Steps p.tables e below (s₁.setTop (mkF m 62 #[.val (.int p1)] [])) _
              refine XS.iconst X0.here hx rfl (hb hby own_d2_62) ?_
              show Steps p.tables e below (s₁.setTop (mkF m 63 #[.val (.int p1)] [(.int (0 : Int32))])) _
              exact retN X0 hx (t := .boolean) Bd.returns (by simp) (hb hby own_d2_63) hr
            · show Q2 Z p1 h0 n0 _ s₁.heap _
              rw [e0]
              exact ⟨(congrArg (fun z => some (Value.int z)) (by unfold own_f_rm2; rw [if_neg hc1, if_neg hc9, if_neg hc39, if_pos hc45, if_pos hc53] : (0 : Int32) = (own_f_rm2 p1))), N0, rfl⟩
          · have pre65 : ∀ t, Steps p.tables e below (s₁.setTop (mkF m 59 #[.val (.int p1)] [(.int (65535 : Int32)), (.int p1)])) t → Steps p.tables e below (s₁.setTop (entryFrame m #[(.int p1)] 1)) t := fun t k => by
              refine pre64 _ ?_
              show Steps p.tables e below (s₁.setTop (mkF m 53 #[.val (.int p1)] [(.int (65534 : Int32)), (.int p1)])) _
              refine XS.icmpNo X0.here hx rfl (hb hby own_d2_53) rfl (feq hc53).1 ?_
              show Steps p.tables e below (s₁.setTop (mkF m 56 #[.val (.int p1)] [])) _
              refine XS.iloadN X0.here hx rfl (hb hby own_d2_56) rfl ?_
              show Steps p.tables e below (s₁.setTop (mkF m 57 #[.val (.int p1)] [(.int p1)])) _
              refine X0.ldcInt hx hown (mvT hZ (hw _ (List.mem_of_getElem? (i := 6) rfl))) (g := (mkF m 57 #[.val (.int p1)] [(.int p1)])) rfl (hb hby own_d2_57) _ ?_
              exact k
            by_cases hc59 : p1 = (65535 : Int32)
            · obtain ⟨fs, hr, hrun, hended, hW, hsame⟩ := X0.leave (v := some (.int (0 : Int32))) (fun h => by rw [Bd.returns] at h; cases h)
              refine ⟨_, _, pre65 _ ?_, hrun, hended, _, _, rfl, ?_, ⟨_, rfl⟩, hW, hsame.mono (by decide) (by decide)⟩
              · show Steps p.tables e below (s₁.setTop (mkF m 59 #[.val (.int p1)] [(.int (65535 : Int32)), (.int p1)])) _
                refine XS.icmpNo X0.here hx rfl (hb hby own_d2_59) rfl (teq hc59).2 ?_
                show Steps p.tables e below (s₁.setTop (mkF m 62 #[.val (.int p1)] [])) _
                refine XS.iconst X0.here hx rfl (hb hby own_d2_62) ?_
                show Steps p.tables e below (s₁.setTop (mkF m 63 #[.val (.int p1)] [(.int (0 : Int32))])) _
                exact retN X0 hx (t := .boolean) Bd.returns (by simp) (hb hby own_d2_63) hr
              · show Q2 Z p1 h0 n0 _ s₁.heap _
                rw [e0]
                exact ⟨(congrArg (fun z => some (Value.int z)) (by unfold own_f_rm2; rw [if_neg hc1, if_neg hc9, if_neg hc39, if_pos hc45, if_neg hc53, if_pos hc59] : (0 : Int32) = (own_f_rm2 p1))), N0, rfl⟩
            · have pre66 : ∀ t, Steps p.tables e below (s₁.setTop (mkF m 67 #[.val (.int p1)] [(.int (1114111 : Int32)), (.int p1)])) t → Steps p.tables e below (s₁.setTop (entryFrame m #[(.int p1)] 1)) t := fun t k => by
                refine pre65 _ ?_
                show Steps p.tables e below (s₁.setTop (mkF m 59 #[.val (.int p1)] [(.int (65535 : Int32)), (.int p1)])) _
                refine XS.icmpYes X0.here hx rfl (pc0 := 59) (pc' := 64) rfl (hb hby own_d2_59) rfl (feq hc59).2 (by decide) (by decide) ?_
                show Steps p.tables e below (s₁.setTop (mkF m 64 #[.val (.int p1)] [])) _
                refine XS.iloadN X0.here hx rfl (hb hby own_d2_64) rfl ?_
                show Steps p.tables e below (s₁.setTop (mkF m 65 #[.val (.int p1)] [(.int p1)])) _
                refine X0.ldcInt hx hown (mvT hZ (hw _ (List.mem_of_getElem? (i := 8) rfl))) (g := (mkF m 65 #[.val (.int p1)] [(.int p1)])) rfl (hb hby own_d2_65) _ ?_
                exact k
              by_cases hc67 : (1114111 : Int32) < p1
              · obtain ⟨fs, hr, hrun, hended, hW, hsame⟩ := X0.leave (v := some (.int (0 : Int32))) (fun h => by rw [Bd.returns] at h; cases h)
                refine ⟨_, _, pre66 _ ?_, hrun, hended, _, _, rfl, ?_, ⟨_, rfl⟩, hW, hsame.mono (by decide) (by decide)⟩
                · show Steps p.tables e below (s₁.setTop (mkF m 67 #[.val (.int p1)] [(.int (1114111 : Int32)), (.int p1)])) _
                  refine XS.icmpYes X0.here hx rfl (pc0 := 67) (pc' := 74) rfl (hb hby own_d2_67) rfl (tlt hc67).2.2.1 (by decide) (by decide) ?_
                  show Steps p.tables e below (s₁.setTop (mkF m 74 #[.val (.int p1)] [])) _
                  refine XS.iconst X0.here hx rfl (hb hby own_d2_74) ?_
                  show Steps p.tables e below (s₁.setTop (mkF m 75 #[.val (.int p1)] [(.int (0 : Int32))])) _
                  exact retN X0 hx (t := .boolean) Bd.returns (by simp) (hb hby own_d2_75) hr
                · show Q2 Z p1 h0 n0 _ s₁.heap _
                  rw [e0]
                  exact ⟨(congrArg (fun z => some (Value.int z)) (by unfold own_f_rm2; rw [if_neg hc1, if_neg hc9, if_neg hc39, if_pos hc45, if_neg hc53, if_neg hc59, if_pos hc67] : (0 : Int32) = (own_f_rm2 p1))), N0, rfl⟩
              · obtain ⟨fs, hr, hrun, hended, hW, hsame⟩ := X0.leave (v := some (.int (1 : Int32))) (fun h => by rw [Bd.returns] at h; cases h)
                refine ⟨_, _, pre66 _ ?_, hrun, hended, _, _, rfl, ?_, ⟨_, rfl⟩, hW, hsame.mono (by decide) (by decide)⟩
                · show Steps p.tables e below (s₁.setTop (mkF m 67 #[.val (.int p1)] [(.int (1114111 : Int32)), (.int p1)])) _
                  refine XS.icmpNo X0.here hx rfl (hb hby own_d2_67) rfl (flt hc67).2.2.1 ?_
                  show Steps p.tables e below (s₁.setTop (mkF m 70 #[.val (.int p1)] [])) _
                  refine XS.iconst X0.here hx rfl (hb hby own_d2_70) ?_
                  show Steps p.tables e below (s₁.setTop (mkF m 71 #[.val (.int p1)] [(.int (1 : Int32))])) _
                  refine XS.goto X0.here hx rfl (pc0 := 71) (pc' := 75) rfl (hb hby own_d2_71) (by decide) (by decide) ?_
                  show Steps p.tables e below (s₁.setTop (mkF m 75 #[.val (.int p1)] [(.int (1 : Int32))])) _
                  exact retN X0 hx (t := .boolean) Bd.returns (by simp) (hb hby own_d2_75) hr
                · show Q2 Z p1 h0 n0 _ s₁.heap _
                  rw [e0]
                  exact ⟨(congrArg (fun z => some (Value.int z)) (by unfold own_f_rm2; rw [if_neg hc1, if_neg hc9, if_neg hc39, if_pos hc45, if_neg hc53, if_neg hc59, if_neg hc67] : (1 : Int32) = (own_f_rm2 p1))), N0, rfl⟩
        · obtain ⟨fs, hr, hrun, hended, hW, hsame⟩ := X0.leave (v := some (.int (0 : Int32))) (fun h => by rw [Bd.returns] at h; cases h)
          refine ⟨_, _, pre63 _ ?_, hrun, hended, _, _, rfl, ?_, ⟨_, rfl⟩, hW, hsame.mono (by decide) (by decide)⟩
          · show Steps p.tables e below (s₁.setTop (mkF m 45 #[.val (.int p1)] [(.int (57343 : Int32)), (.int p1)])) _
            refine XS.icmpNo X0.here hx rfl (hb hby own_d2_45) rfl (flt hc45).2.2.1 ?_
            show Steps p.tables e below (s₁.setTop (mkF m 48 #[.val (.int p1)] [])) _
            refine XS.iconst X0.here hx rfl (hb hby own_d2_48) ?_
            show Steps p.tables e below (s₁.setTop (mkF m 49 #[.val (.int p1)] [(.int (0 : Int32))])) _
            exact retN X0 hx (t := .boolean) Bd.returns (by simp) (hb hby own_d2_49) hr
          · show Q2 Z p1 h0 n0 _ s₁.heap _
            rw [e0]
            exact ⟨(congrArg (fun z => some (Value.int z)) (by unfold own_f_rm2; rw [if_neg hc1, if_neg hc9, if_neg hc39, if_neg hc45] : (0 : Int32) = (own_f_rm2 p1))), N0, rfl⟩
theorem own_eq (d : Int32) : own_f_rm1 d = own_f_rm2 d := by
  unfold own_f_rm1 own_f_rm2
  grind (splits := 40)
theorem own_ix (x : Int32) : ¬ (((x.toUInt32 >>> ((1 : Int32) &&& 31).toUInt32).toInt32) % (16 : Int32)) < (0 : Int32) ∧ (((x.toUInt32 >>> ((1 : Int32) &&& 31).toUInt32).toInt32) % (16 : Int32)) < (16 : Int32) := by
  have h1 := c_iushr x 1 1 (by decide) (by decide)
  have h0 := rng32 x
  have h2 := (c_irem ((x.toUInt32 >>> ((1 : Int32) &&& 31).toUInt32).toInt32) 16 16 (by decide)).1 (by omega)
  have e0 : (0 : Int32).toInt = 0 := by decide
  have e1 : (16 : Int32).toInt = 16 := by decide
  rw [Int32.lt_iff_toInt_lt, Int32.lt_iff_toInt_lt]
  omega
theorem own_pd0 : parseMethodDescriptor "(I)Z" = some ⟨[.int], some .boolean⟩ := by decide +kernel
theorem own_ef_rm0 (m : MethodId) (p0 : Int32) (p1 : Int32) (p2 : Int32) : entryFrame m #[(.int p0), (.int p1), (.int p2)] maxLocals = mkF m 0 #[.val (.int p0), .val (.int p1), .val (.int p2), .unset, .unset] [] := by first | (simp [entryFrame, mkF, argsToLocals, Value.category, maxLocals]; done) | rfl
def Q0 (Z : State) (p0 : Int32) (p1 : Int32) (p2 : Int32) (h0 : Heap) (n0 : Nat) (v : Option Value) (h : Heap) (L : List Loc) : Prop := v = some (.int (1 : Int32)) ∧ Fr n0 L
set_option maxRecDepth 65536 in
set_option maxHeartbeats 40000000 in
theorem rm0 (l : Launch) (Z : State) (a0 : Array Value) (hw : ∀ d ∈ tables_1, d.before a0 Z = true) (ws : List Jvm.Cond) (p0 : Int32) (p1 : Int32) (p2 : Int32) (h0 : Heap) (n0 : Nat) (Z0 : n0 ≤ h0.size) :
    MetFree l x (head1 (Jvm.Cond.code x code maxLocals ret :: ws) room_1) (fun a U => a = #[(.int p0), (.int p1), (.int p2)] ∧ Z.Warmed39 U.vm ∧ U.heap = h0) (fun _ _ _ _ _ => True) (fun _ U o U' => ∃ v L, o = .returned v ∧ Q0 Z p0 p1 p2 h0 n0 v U'.heap L ∧ FrameEnd U o U' L room_1.cells room_1.slots) := by
  refine MetFree.of_bodySF (plainFor_of_name own_pn1) hisR ?_
  intro p e s m args below meth c s₁ Bd hml0 hP hK
  obtain ⟨rfl, hZ, hh⟩ := hP
  have hx := Bd.exec
  have hby := Bd.bytes
  have hml : c.maxLocals = 5 := hml0
  have hown : s.vm.findClass "com/example/partybook/partybook/io/XmlParserIsCharacterPinLaw" = some m.cls := findClass_of_methodNamed Bd.named
  have hnm := (name_of_methodNamed Bd.named Bd.method).1
  have X0 : Stand p l e room_1 s m #[(.int p0), (.int p1), (.int p2)] below meth c s₁ [] 0 0 := Stand.of_body Bd
  have e0 : s₁.heap = h0 := by rw [← hh, Bd.state]; rfl
  have N0 := Fr.nil n0
  have K0 : Keep h0 h0 [] := Keep.refl h0 _
  have pre0 : ∀ t, Steps p.tables e below (s₁.setTop (mkF m 0 #[.val (.int p0), .val (.int p1), .val (.int p2), .unset, .unset] [])) t → Steps p.tables e below (s₁.setTop (entryFrame m #[(.int p0), (.int p1), (.int p2)] maxLocals)) t := fun t k => castTop (own_ef_rm0 m p0 p1 p2) k
  obtain ⟨T67, h67, k67, X67, e67, E67, A67, st67⟩ := newP X0 hx hZ (hw _ (List.mem_of_getElem? (i := 0) rfl)) e0 (g := (mkF m 2 #[.val (.int p0), .val (.int p1), .val (.int p2), .unset, .unset] [(.int (16 : Int32))])) rfl (hb hby at_2) rfl (by decide) (cap := 16) (by decide) (by decide) (by decide) (by decide)
  obtain ⟨b67, g67⟩ : ∃ z, z = h0.size := ⟨_, rfl⟩
  rw [← g67] at A67 st67
  have gg_b67 : n0 ≤ b67 := Nat.le_trans (Nat.le_trans Z0 K0.1) (Nat.le_of_eq g67.symm)
  have sz_b67 : h0.size ≤ b67 := Nat.le_trans K0.1 (Nat.le_of_eq g67.symm)
  have K67 := K0.ext E67
  have V67 : Arv Z h67 b67 k67 .int (16 : Int32) [(.int (0 : Int32)), (.int (0 : Int32)), (.int (0 : Int32)), (.int (0 : Int32)), (.int (0 : Int32)), (.int (0 : Int32)), (.int (0 : Int32)), (.int (0 : Int32)), (.int (0 : Int32)), (.int (0 : Int32)), (.int (0 : Int32)), (.int (0 : Int32)), (.int (0 : Int32)), (.int (0 : Int32)), (.int (0 : Int32)), (.int (0 : Int32))] (.int (0 : Int32)) := (Arv.new A67 (by decide)).pad (pad_rep [] (.int (0 : Int32)) 16)
  obtain ⟨cl68, Ar68, q68, S68, M68, H68, G68⟩ := id V67
  have hin68 : ¬ ((0 : Int32) < 0 ∨ cl68.slots.size ≤ ((0 : Int32)).toNatClampNeg) := inb_of S68 ⟨by decide, by decide⟩
  obtain ⟨T69, h69, X69, e69, W69, st69⟩ := stI X67 hx hZ e67 Ar68 (j := (0 : Int32)) hin68 (g := (mkF m 7 #[.val (.int p0), .val (.int p1), .val (.int p2), .unset, .unset] [(.int (0 : Int32)), (.int (0 : Int32)), (.ref b67), (.ref b67)])) rfl rfl (hb hby at_7)
  have V69 : Arv Z h69 b67 k67 .int (16 : Int32) [(.int (0 : Int32)), (.int (0 : Int32)), (.int (0 : Int32)), (.int (0 : Int32)), (.int (0 : Int32)), (.int (0 : Int32)), (.int (0 : Int32)), (.int (0 : Int32)), (.int (0 : Int32)), (.int (0 : Int32)), (.int (0 : Int32)), (.int (0 : Int32)), (.int (0 : Int32)), (.int (0 : Int32)), (.int (0 : Int32)), (.int (0 : Int32))] (.int (0 : Int32)) := Arv.set Ar68 q68 S68 M68 H68 G68 rfl W69 0 rfl (Nat.le_of_ble_eq_true rfl)
  have K69 := K67.wr W69 (Or.inr sz_b67)
  have N69 := Fr.snoc X69 N0 gg_b67
  obtain ⟨cl70, Ar70, q70, S70, M70, H70, G70⟩ := id V69
  have hin70 : ¬ ((1 : Int32) < 0 ∨ cl70.slots.size ≤ ((1 : Int32)).toNatClampNeg) := inb_of S70 ⟨by decide, by decide⟩
  obtain ⟨T71, h71, X71, e71, W71, st71⟩ := stI X69 hx hZ e69 Ar70 (j := (1 : Int32)) hin70 (g := (mkF m 12 #[.val (.int p0), .val (.int p1), .val (.int p2), .unset, .unset] [(.int (9 : Int32)), (.int (1 : Int32)), (.ref b67), (.ref b67)])) rfl rfl (hb hby at_12)
  have V71 : Arv Z h71 b67 k67 .int (16 : Int32) [(.int (0 : Int32)), (.int (9 : Int32)), (.int (0 : Int32)), (.int (0 : Int32)), (.int (0 : Int32)), (.int (0 : Int32)), (.int (0 : Int32)), (.int (0 : Int32)), (.int (0 : Int32)), (.int (0 : Int32)), (.int (0 : Int32)), (.int (0 : Int32)), (.int (0 : Int32)), (.int (0 : Int32)), (.int (0 : Int32)), (.int (0 : Int32))] (.int (0 : Int32)) := Arv.set Ar70 q70 S70 M70 H70 G70 rfl W71 1 rfl (Nat.le_of_ble_eq_true rfl)
  have K71 := K69.wr W71 (Or.inr sz_b67)
  have N71 := Fr.snoc X71 N69 gg_b67
  obtain ⟨cl72, Ar72, q72, S72, M72, H72, G72⟩ := id V71
  have hin72 : ¬ ((2 : Int32) < 0 ∨ cl72.slots.size ≤ ((2 : Int32)).toNatClampNeg) := inb_of S72 ⟨by decide, by decide⟩
  obtain ⟨T73, h73, X73, e73, W73, st73⟩ := stI X71 hx hZ e71 Ar72 (j := (2 : Int32)) hin72 (g := (mkF m 17 #[.val (.int p0), .val (.int p1), .val (.int p2), .unset, .unset] [(.int (10 : Int32)), (.int (2 : Int32)), (.ref b67), (.ref b67)])) rfl rfl (hb hby at_17)
  have V73 : Arv Z h73 b67 k67 .int (16 : Int32) [(.int (0 : Int32)), (.int (9 : Int32)), (.int (10 : Int32)), (.int (0 : Int32)), (.int (0 : Int32)), (.int (0 : Int32)), (.int (0 : Int32)), (.int (0 : Int32)), (.int (0 : Int32)), (.int (0 : Int32)), (.int (0 : Int32)), (.int (0 : Int32)), (.int (0 : Int32)), (.int (0 : Int32)), (.int (0 : Int32)), (.int (0 : Int32))] (.int (0 : Int32)) := Arv.set Ar72 q72 S72 M72 H72 G72 rfl W73 2 rfl (Nat.le_of_ble_eq_true rfl)
  have K73 := K71.wr W73 (Or.inr sz_b67)
  have N73 := Fr.snoc X73 N71 gg_b67
  obtain ⟨cl74, Ar74, q74, S74, M74, H74, G74⟩ := id V73
  have hin74 : ¬ ((3 : Int32) < 0 ∨ cl74.slots.size ≤ ((3 : Int32)).toNatClampNeg) := inb_of S74 ⟨by decide, by decide⟩
  obtain ⟨T75, h75, X75, e75, W75, st75⟩ := stI X73 hx hZ e73 Ar74 (j := (3 : Int32)) hin74 (g := (mkF m 22 #[.val (.int p0), .val (.int p1), .val (.int p2), .unset, .unset] [(.int (13 : Int32)), (.int (3 : Int32)), (.ref b67), (.ref b67)])) rfl rfl (hb hby at_22)
  have V75 : Arv Z h75 b67 k67 .int (16 : Int32) [(.int (0 : Int32)), (.int (9 : Int32)), (.int (10 : Int32)), (.int (13 : Int32)), (.int (0 : Int32)), (.int (0 : Int32)), (.int (0 : Int32)), (.int (0 : Int32)), (.int (0 : Int32)), (.int (0 : Int32)), (.int (0 : Int32)), (.int (0 : Int32)), (.int (0 : Int32)), (.int (0 : Int32)), (.int (0 : Int32)), (.int (0 : Int32))] (.int (0 : Int32)) := Arv.set Ar74 q74 S74 M74 H74 G74 rfl W75 3 rfl (Nat.le_of_ble_eq_true rfl)
  have K75 := K73.wr W75 (Or.inr sz_b67)
  have N75 := Fr.snoc X75 N73 gg_b67
  obtain ⟨cl76, Ar76, q76, S76, M76, H76, G76⟩ := id V75
  have hin76 : ¬ ((4 : Int32) < 0 ∨ cl76.slots.size ≤ ((4 : Int32)).toNatClampNeg) := inb_of S76 ⟨by decide, by decide⟩
  obtain ⟨T77, h77, X77, e77, W77, st77⟩ := stI X75 hx hZ e75 Ar76 (j := (4 : Int32)) hin76 (g := (mkF m 27 #[.val (.int p0), .val (.int p1), .val (.int p2), .unset, .unset] [(.int (32 : Int32)), (.int (4 : Int32)), (.ref b67), (.ref b67)])) rfl rfl (hb hby at_27)
  have V77 : Arv Z h77 b67 k67 .int (16 : Int32) [(.int (0 : Int32)), (.int (9 : Int32)), (.int (10 : Int32)), (.int (13 : Int32)), (.int (32 : Int32)), (.int (0 : Int32)), (.int (0 : Int32)), (.int (0 : Int32)), (.int (0 : Int32)), (.int (0 : Int32)), (.int (0 : Int32)), (.int (0 : Int32)), (.int (0 : Int32)), (.int (0 : Int32)), (.int (0 : Int32)), (.int (0 : Int32))] (.int (0 : Int32)) := Arv.set Ar76 q76 S76 M76 H76 G76 rfl W77 4 rfl (Nat.le_of_ble_eq_true rfl)
  have K77 := K75.wr W77 (Or.inr sz_b67)
  have N77 := Fr.snoc X77 N75 gg_b67
  obtain ⟨cl78, Ar78, q78, S78, M78, H78, G78⟩ := id V77
  have hin78 : ¬ ((5 : Int32) < 0 ∨ cl78.slots.size ≤ ((5 : Int32)).toNatClampNeg) := inb_of S78 ⟨by decide, by decide⟩
  obtain ⟨T79, h79, X79, e79, W79, st79⟩ := stI X77 hx hZ e77 Ar78 (j := (5 : Int32)) hin78 (g := (mkF m 32 #[.val (.int p0), .val (.int p1), .val (.int p2), .unset, .unset] [(.int (55295 : Int32)), (.int (5 : Int32)), (.ref b67), (.ref b67)])) rfl rfl (hb hby at_32)
  have V79 : Arv Z h79 b67 k67 .int (16 : Int32) [(.int (0 : Int32)), (.int (9 : Int32)), (.int (10 : Int32)), (.int (13 : Int32)), (.int (32 : Int32)), (.int (55295 : Int32)), (.int (0 : Int32)), (.int (0 : Int32)), (.int (0 : Int32)), (.int (0 : Int32)), (.int (0 : Int32)), (.int (0 : Int32)), (.int (0 : Int32)), (.int (0 : Int32)), (.int (0 : Int32)), (.int (0 : Int32))] (.int (0 : Int32)) := Arv.set Ar78 q78 S78 M78 H78 G78 rfl W79 5 rfl (Nat.le_of_ble_eq_true rfl)
  have K79 := K77.wr W79 (Or.inr sz_b67)
  have N79 := Fr.snoc X79 N77 gg_b67
  obtain ⟨cl80, Ar80, q80, S80, M80, H80, G80⟩ := id V79
  have hin80 : ¬ ((6 : Int32) < 0 ∨ cl80.slots.size ≤ ((6 : Int32)).toNatClampNeg) := inb_of S80 ⟨by decide, by decide⟩
  obtain ⟨T81, h81, X81, e81, W81, st81⟩ := stI X79 hx hZ e79 Ar80 (j := (6 : Int32)) hin80 (g := (mkF m 38 #[.val (.int p0), .val (.int p1), .val (.int p2), .unset, .unset] [(.int (55296 : Int32)), (.int (6 : Int32)), (.ref b67), (.ref b67)])) rfl rfl (hb hby at_38)
  have V81 : Arv Z h81 b67 k67 .int (16 : Int32) [(.int (0 : Int32)), (.int (9 : Int32)), (.int (10 : Int32)), (.int (13 : Int32)), (.int (32 : Int32)), (.int (55295 : Int32)), (.int (55296 : Int32)), (.int (0 : Int32)), (.int (0 : Int32)), (.int (0 : Int32)), (.int (0 : Int32)), (.int (0 : Int32)), (.int (0 : Int32)), (.int (0 : Int32)), (.int (0 : Int32)), (.int (0 : Int32))] (.int (0 : Int32)) := Arv.set Ar80 q80 S80 M80 H80 G80 rfl W81 6 rfl (Nat.le_of_ble_eq_true rfl)
  have K81 := K79.wr W81 (Or.inr sz_b67)
  have N81 := Fr.snoc X81 N79 gg_b67
  obtain ⟨cl82, Ar82, q82, S82, M82, H82, G82⟩ := id V81
  have hin82 : ¬ ((7 : Int32) < 0 ∨ cl82.slots.size ≤ ((7 : Int32)).toNatClampNeg) := inb_of S82 ⟨by decide, by decide⟩
  obtain ⟨T83, h83, X83, e83, W83, st83⟩ := stI X81 hx hZ e81 Ar82 (j := (7 : Int32)) hin82 (g := (mkF m 44 #[.val (.int p0), .val (.int p1), .val (.int p2), .unset, .unset] [(.int (57343 : Int32)), (.int (7 : Int32)), (.ref b67), (.ref b67)])) rfl rfl (hb hby at_44)
  have V83 : Arv Z h83 b67 k67 .int (16 : Int32) [(.int (0 : Int32)), (.int (9 : Int32)), (.int (10 : Int32)), (.int (13 : Int32)), (.int (32 : Int32)), (.int (55295 : Int32)), (.int (55296 : Int32)), (.int (57343 : Int32)), (.int (0 : Int32)), (.int (0 : Int32)), (.int (0 : Int32)), (.int (0 : Int32)), (.int (0 : Int32)), (.int (0 : Int32)), (.int (0 : Int32)), (.int (0 : Int32))] (.int (0 : Int32)) := Arv.set Ar82 q82 S82 M82 H82 G82 rfl W83 7 rfl (Nat.le_of_ble_eq_true rfl)
  have K83 := K81.wr W83 (Or.inr sz_b67)
  have N83 := Fr.snoc X83 N81 gg_b67
  obtain ⟨cl84, Ar84, q84, S84, M84, H84, G84⟩ := id V83
  have hin84 : ¬ ((8 : Int32) < 0 ∨ cl84.slots.size ≤ ((8 : Int32)).toNatClampNeg) := inb_of S84 ⟨by decide, by decide⟩
  obtain ⟨T85, h85, X85, e85, W85, st85⟩ := stI X83 hx hZ e83 Ar84 (j := (8 : Int32)) hin84 (g := (mkF m 50 #[.val (.int p0), .val (.int p1), .val (.int p2), .unset, .unset] [(.int (57344 : Int32)), (.int (8 : Int32)), (.ref b67), (.ref b67)])) rfl rfl (hb hby at_50)
  have V85 : Arv Z h85 b67 k67 .int (16 : Int32) [(.int (0 : Int32)), (.int (9 : Int32)), (.int (10 : Int32)), (.int (13 : Int32)), (.int (32 : Int32)), (.int (55295 : Int32)), (.int (55296 : Int32)), (.int (57343 : Int32)), (.int (57344 : Int32)), (.int (0 : Int32)), (.int (0 : Int32)), (.int (0 : Int32)), (.int (0 : Int32)), (.int (0 : Int32)), (.int (0 : Int32)), (.int (0 : Int32))] (.int (0 : Int32)) := Arv.set Ar84 q84 S84 M84 H84 G84 rfl W85 8 rfl (Nat.le_of_ble_eq_true rfl)
  have K85 := K83.wr W85 (Or.inr sz_b67)
  have N85 := Fr.snoc X85 N83 gg_b67
  obtain ⟨cl86, Ar86, q86, S86, M86, H86, G86⟩ := id V85
  have hin86 : ¬ ((9 : Int32) < 0 ∨ cl86.slots.size ≤ ((9 : Int32)).toNatClampNeg) := inb_of S86 ⟨by decide, by decide⟩
  obtain ⟨T87, h87, X87, e87, W87, st87⟩ := stI X85 hx hZ e85 Ar86 (j := (9 : Int32)) hin86 (g := (mkF m 56 #[.val (.int p0), .val (.int p1), .val (.int p2), .unset, .unset] [(.int (65533 : Int32)), (.int (9 : Int32)), (.ref b67), (.ref b67)])) rfl rfl (hb hby at_56)
  have V87 : Arv Z h87 b67 k67 .int (16 : Int32) [(.int (0 : Int32)), (.int (9 : Int32)), (.int (10 : Int32)), (.int (13 : Int32)), (.int (32 : Int32)), (.int (55295 : Int32)), (.int (55296 : Int32)), (.int (57343 : Int32)), (.int (57344 : Int32)), (.int (65533 : Int32)), (.int (0 : Int32)), (.int (0 : Int32)), (.int (0 : Int32)), (.int (0 : Int32)), (.int (0 : Int32)), (.int (0 : Int32))] (.int (0 : Int32)) := Arv.set Ar86 q86 S86 M86 H86 G86 rfl W87 9 rfl (Nat.le_of_ble_eq_true rfl)
  have K87 := K85.wr W87 (Or.inr sz_b67)
  have N87 := Fr.snoc X87 N85 gg_b67
  obtain ⟨cl88, Ar88, q88, S88, M88, H88, G88⟩ := id V87
  have hin88 : ¬ ((10 : Int32) < 0 ∨ cl88.slots.size ≤ ((10 : Int32)).toNatClampNeg) := inb_of S88 ⟨by decide, by decide⟩
  obtain ⟨T89, h89, X89, e89, W89, st89⟩ := stI X87 hx hZ e87 Ar88 (j := (10 : Int32)) hin88 (g := (mkF m 62 #[.val (.int p0), .val (.int p1), .val (.int p2), .unset, .unset] [(.int (65535 : Int32)), (.int (10 : Int32)), (.ref b67), (.ref b67)])) rfl rfl (hb hby at_62)
  have V89 : Arv Z h89 b67 k67 .int (16 : Int32) [(.int (0 : Int32)), (.int (9 : Int32)), (.int (10 : Int32)), (.int (13 : Int32)), (.int (32 : Int32)), (.int (55295 : Int32)), (.int (55296 : Int32)), (.int (57343 : Int32)), (.int (57344 : Int32)), (.int (65533 : Int32)), (.int (65535 : Int32)), (.int (0 : Int32)), (.int (0 : Int32)), (.int (0 : Int32)), (.int (0 : Int32)), (.int (0 : Int32))] (.int (0 : Int32)) := Arv.set Ar88 q88 S88 M88 H88 G88 rfl W89 10 rfl (Nat.le_of_ble_eq_true rfl)
  have K89 := K87.wr W89 (Or.inr sz_b67)
  have N89 := Fr.snoc X89 N87 gg_b67
  obtain ⟨cl90, Ar90, q90, S90, M90, H90, G90⟩ := id V89
  have hin90 : ¬ ((11 : Int32) < 0 ∨ cl90.slots.size ≤ ((11 : Int32)).toNatClampNeg) := inb_of S90 ⟨by decide, by decide⟩
  obtain ⟨T91, h91, X91, e91, W91, st91⟩ := stI X89 hx hZ e89 Ar90 (j := (11 : Int32)) hin90 (g := (mkF m 68 #[.val (.int p0), .val (.int p1), .val (.int p2), .unset, .unset] [(.int (65536 : Int32)), (.int (11 : Int32)), (.ref b67), (.ref b67)])) rfl rfl (hb hby at_68)
  have V91 : Arv Z h91 b67 k67 .int (16 : Int32) [(.int (0 : Int32)), (.int (9 : Int32)), (.int (10 : Int32)), (.int (13 : Int32)), (.int (32 : Int32)), (.int (55295 : Int32)), (.int (55296 : Int32)), (.int (57343 : Int32)), (.int (57344 : Int32)), (.int (65533 : Int32)), (.int (65535 : Int32)), (.int (65536 : Int32)), (.int (0 : Int32)), (.int (0 : Int32)), (.int (0 : Int32)), (.int (0 : Int32))] (.int (0 : Int32)) := Arv.set Ar90 q90 S90 M90 H90 G90 rfl W91 11 rfl (Nat.le_of_ble_eq_true rfl)
  have K91 := K89.wr W91 (Or.inr sz_b67)
  have N91 := Fr.snoc X91 N89 gg_b67
  obtain ⟨cl92, Ar92, q92, S92, M92, H92, G92⟩ := id V91
  have hin92 : ¬ ((12 : Int32) < 0 ∨ cl92.slots.size ≤ ((12 : Int32)).toNatClampNeg) := inb_of S92 ⟨by decide, by decide⟩
  obtain ⟨T93, h93, X93, e93, W93, st93⟩ := stI X91 hx hZ e91 Ar92 (j := (12 : Int32)) hin92 (g := (mkF m 74 #[.val (.int p0), .val (.int p1), .val (.int p2), .unset, .unset] [(.int (1114111 : Int32)), (.int (12 : Int32)), (.ref b67), (.ref b67)])) rfl rfl (hb hby at_74)
  have V93 : Arv Z h93 b67 k67 .int (16 : Int32) [(.int (0 : Int32)), (.int (9 : Int32)), (.int (10 : Int32)), (.int (13 : Int32)), (.int (32 : Int32)), (.int (55295 : Int32)), (.int (55296 : Int32)), (.int (57343 : Int32)), (.int (57344 : Int32)), (.int (65533 : Int32)), (.int (65535 : Int32)), (.int (65536 : Int32)), (.int (1114111 : Int32)), (.int (0 : Int32)), (.int (0 : Int32)), (.int (0 : Int32))] (.int (0 : Int32)) := Arv.set Ar92 q92 S92 M92 H92 G92 rfl W93 12 rfl (Nat.le_of_ble_eq_true rfl)
  have K93 := K91.wr W93 (Or.inr sz_b67)
  have N93 := Fr.snoc X93 N91 gg_b67
  obtain ⟨cl94, Ar94, q94, S94, M94, H94, G94⟩ := id V93
  have hin94 : ¬ ((13 : Int32) < 0 ∨ cl94.slots.size ≤ ((13 : Int32)).toNatClampNeg) := inb_of S94 ⟨by decide, by decide⟩
  obtain ⟨T95, h95, X95, e95, W95, st95⟩ := stI X93 hx hZ e93 Ar94 (j := (13 : Int32)) hin94 (g := (mkF m 80 #[.val (.int p0), .val (.int p1), .val (.int p2), .unset, .unset] [(.int (1114112 : Int32)), (.int (13 : Int32)), (.ref b67), (.ref b67)])) rfl rfl (hb hby at_80)
  have V95 : Arv Z h95 b67 k67 .int (16 : Int32) [(.int (0 : Int32)), (.int (9 : Int32)), (.int (10 : Int32)), (.int (13 : Int32)), (.int (32 : Int32)), (.int (55295 : Int32)), (.int (55296 : Int32)), (.int (57343 : Int32)), (.int (57344 : Int32)), (.int (65533 : Int32)), (.int (65535 : Int32)), (.int (65536 : Int32)), (.int (1114111 : Int32)), (.int (1114112 : Int32)), (.int (0 : Int32)), (.int (0 : Int32))] (.int (0 : Int32)) := Arv.set Ar94 q94 S94 M94 H94 G94 rfl W95 13 rfl (Nat.le_of_ble_eq_true rfl)
  have K95 := K93.wr W95 (Or.inr sz_b67)
  have N95 := Fr.snoc X95 N93 gg_b67
  obtain ⟨cl96, Ar96, q96, S96, M96, H96, G96⟩ := id V95
  have hin96 : ¬ ((14 : Int32) < 0 ∨ cl96.slots.size ≤ ((14 : Int32)).toNatClampNeg) := inb_of S96 ⟨by decide, by decide⟩
  obtain ⟨T97, h97, X97, e97, W97, st97⟩ := stI X95 hx hZ e95 Ar96 (j := (14 : Int32)) hin96 (g := (mkF m 86 #[.val (.int p0), .val (.int p1), .val (.int p2), .unset, .unset] [(.int (-2147483648 : Int32)), (.int (14 : Int32)), (.ref b67), (.ref b67)])) rfl rfl (hb hby at_86)
  have V97 : Arv Z h97 b67 k67 .int (16 : Int32) [(.int (0 : Int32)), (.int (9 : Int32)), (.int (10 : Int32)), (.int (13 : Int32)), (.int (32 : Int32)), (.int (55295 : Int32)), (.int (55296 : Int32)), (.int (57343 : Int32)), (.int (57344 : Int32)), (.int (65533 : Int32)), (.int (65535 : Int32)), (.int (65536 : Int32)), (.int (1114111 : Int32)), (.int (1114112 : Int32)), (.int (-2147483648 : Int32)), (.int (0 : Int32))] (.int (0 : Int32)) := Arv.set Ar96 q96 S96 M96 H96 G96 rfl W97 14 rfl (Nat.le_of_ble_eq_true rfl)
  have K97 := K95.wr W97 (Or.inr sz_b67)
  have N97 := Fr.snoc X97 N95 gg_b67
  obtain ⟨cl98, Ar98, q98, S98, M98, H98, G98⟩ := id V97
  have hin98 : ¬ ((15 : Int32) < 0 ∨ cl98.slots.size ≤ ((15 : Int32)).toNatClampNeg) := inb_of S98 ⟨by decide, by decide⟩
  obtain ⟨T99, h99, X99, e99, W99, st99⟩ := stI X97 hx hZ e97 Ar98 (j := (15 : Int32)) hin98 (g := (mkF m 92 #[.val (.int p0), .val (.int p1), .val (.int p2), .unset, .unset] [(.int (2147483647 : Int32)), (.int (15 : Int32)), (.ref b67), (.ref b67)])) rfl rfl (hb hby at_92)
  have V99 : Arv Z h99 b67 k67 .int (16 : Int32) [(.int (0 : Int32)), (.int (9 : Int32)), (.int (10 : Int32)), (.int (13 : Int32)), (.int (32 : Int32)), (.int (55295 : Int32)), (.int (55296 : Int32)), (.int (57343 : Int32)), (.int (57344 : Int32)), (.int (65533 : Int32)), (.int (65535 : Int32)), (.int (65536 : Int32)), (.int (1114111 : Int32)), (.int (1114112 : Int32)), (.int (-2147483648 : Int32)), (.int (2147483647 : Int32))] (.int (0 : Int32)) := Arv.set Ar98 q98 S98 M98 H98 G98 rfl W99 15 rfl (Nat.le_of_ble_eq_true rfl)
  have K99 := K97.wr W99 (Or.inr sz_b67)
  have N99 := Fr.snoc X99 N97 gg_b67
  have pre100 : ∀ t, Steps p.tables e below (T99.setTop (mkF m 97 #[.val (.int p0), .val (.int p1), .val (.int p2), .val (.ref b67), .unset] [(.int (p1 &&& (1 : Int32)))])) t → Steps p.tables e below (s₁.setTop (entryFrame m #[(.int p0), (.int p1), (.int p2)] maxLocals)) t := fun t k => by
    refine pre0 _ ?_
    show Steps p.tables e below (s₁.setTop (mkF m 0 #[.val (.int p0), .val (.int p1), .val (.int p2), .unset, .unset] [])) _
    refine XS.bipush X0.here hx rfl (hb hby at_0) ?_
    show Steps p.tables e below (s₁.setTop (mkF m 2 #[.val (.int p0), .val (.int p1), .val (.int p2), .unset, .unset] [(.int (16 : Int32))])) _
    refine st67 _ ?_
    show Steps p.tables e below (T67.setTop (mkF m 4 #[.val (.int p0), .val (.int p1), .val (.int p2), .unset, .unset] [(.ref b67)])) _
    refine XS.dup X67.here hx rfl (hb hby at_4) rfl rfl ?_
    show Steps p.tables e below (T67.setTop (mkF m 5 #[.val (.int p0), .val (.int p1), .val (.int p2), .unset, .unset] [(.ref b67), (.ref b67)])) _
    refine XS.iconst X67.here hx rfl (hb hby at_5) ?_
    show Steps p.tables e below (T67.setTop (mkF m 6 #[.val (.int p0), .val (.int p1), .val (.int p2), .unset, .unset] [(.int (0 : Int32)), (.ref b67), (.ref b67)])) _
    refine XS.iconst X67.here hx rfl (hb hby at_6) ?_
    show Steps p.tables e below (T67.setTop (mkF m 7 #[.val (.int p0), .val (.int p1), .val (.int p2), .unset, .unset] [(.int (0 : Int32)), (.int (0 : Int32)), (.ref b67), (.ref b67)])) _
    refine st69 _ ?_
    show Steps p.tables e below (T69.setTop (mkF m 8 #[.val (.int p0), .val (.int p1), .val (.int p2), .unset, .unset] [(.ref b67)])) _
    refine XS.dup X69.here hx rfl (hb hby at_8) rfl rfl ?_
    show Steps p.tables e below (T69.setTop (mkF m 9 #[.val (.int p0), .val (.int p1), .val (.int p2), .unset, .unset] [(.ref b67), (.ref b67)])) _
    refine XS.iconst X69.here hx rfl (hb hby at_9) ?_
    show Steps p.tables e below (T69.setTop (mkF m 10 #[.val (.int p0), .val (.int p1), .val (.int p2), .unset, .unset] [(.int (1 : Int32)), (.ref b67), (.ref b67)])) _
    refine XS.bipush X69.here hx rfl (hb hby at_10) ?_
    show Steps p.tables e below (T69.setTop (mkF m 12 #[.val (.int p0), .val (.int p1), .val (.int p2), .unset, .unset] [(.int (9 : Int32)), (.int (1 : Int32)), (.ref b67), (.ref b67)])) _
    refine st71 _ ?_
    show Steps p.tables e below (T71.setTop (mkF m 13 #[.val (.int p0), .val (.int p1), .val (.int p2), .unset, .unset] [(.ref b67)])) _
    refine XS.dup X71.here hx rfl (hb hby at_13) rfl rfl ?_
    show Steps p.tables e below (T71.setTop (mkF m 14 #[.val (.int p0), .val (.int p1), .val (.int p2), .unset, .unset] [(.ref b67), (.ref b67)])) _
    refine XS.iconst X71.here hx rfl (hb hby at_14) ?_
    show Steps p.tables e below (T71.setTop (mkF m 15 #[.val (.int p0), .val (.int p1), .val (.int p2), .unset, .unset] [(.int (2 : Int32)), (.ref b67), (.ref b67)])) _
    refine XS.bipush X71.here hx rfl (hb hby at_15) ?_
    show Steps p.tables e below (T71.setTop (mkF m 17 #[.val (.int p0), .val (.int p1), .val (.int p2), .unset, .unset] [(.int (10 : Int32)), (.int (2 : Int32)), (.ref b67), (.ref b67)])) _
    refine st73 _ ?_
    show Steps p.tables e below (T73.setTop (mkF m 18 #[.val (.int p0), .val (.int p1), .val (.int p2), .unset, .unset] [(.ref b67)])) _
    refine XS.dup X73.here hx rfl (hb hby at_18) rfl rfl ?_
    show Steps p.tables e below (T73.setTop (mkF m 19 #[.val (.int p0), .val (.int p1), .val (.int p2), .unset, .unset] [(.ref b67), (.ref b67)])) _
    refine XS.iconst X73.here hx rfl (hb hby at_19) ?_
    show Steps p.tables e below (T73.setTop (mkF m 20 #[.val (.int p0), .val (.int p1), .val (.int p2), .unset, .unset] [(.int (3 : Int32)), (.ref b67), (.ref b67)])) _
    refine XS.bipush X73.here hx rfl (hb hby at_20) ?_
    show Steps p.tables e below (T73.setTop (mkF m 22 #[.val (.int p0), .val (.int p1), .val (.int p2), .unset, .unset] [(.int (13 : Int32)), (.int (3 : Int32)), (.ref b67), (.ref b67)])) _
    refine st75 _ ?_
    show Steps p.tables e below (T75.setTop (mkF m 23 #[.val (.int p0), .val (.int p1), .val (.int p2), .unset, .unset] [(.ref b67)])) _
    refine XS.dup X75.here hx rfl (hb hby at_23) rfl rfl ?_
    show Steps p.tables e below (T75.setTop (mkF m 24 #[.val (.int p0), .val (.int p1), .val (.int p2), .unset, .unset] [(.ref b67), (.ref b67)])) _
    refine XS.iconst X75.here hx rfl (hb hby at_24) ?_
    show Steps p.tables e below (T75.setTop (mkF m 25 #[.val (.int p0), .val (.int p1), .val (.int p2), .unset, .unset] [(.int (4 : Int32)), (.ref b67), (.ref b67)])) _
    refine XS.bipush X75.here hx rfl (hb hby at_25) ?_
    show Steps p.tables e below (T75.setTop (mkF m 27 #[.val (.int p0), .val (.int p1), .val (.int p2), .unset, .unset] [(.int (32 : Int32)), (.int (4 : Int32)), (.ref b67), (.ref b67)])) _
    refine st77 _ ?_
    show Steps p.tables e below (T77.setTop (mkF m 28 #[.val (.int p0), .val (.int p1), .val (.int p2), .unset, .unset] [(.ref b67)])) _
    refine XS.dup X77.here hx rfl (hb hby at_28) rfl rfl ?_
    show Steps p.tables e below (T77.setTop (mkF m 29 #[.val (.int p0), .val (.int p1), .val (.int p2), .unset, .unset] [(.ref b67), (.ref b67)])) _
    refine XS.iconst X77.here hx rfl (hb hby at_29) ?_
    show Steps p.tables e below (T77.setTop (mkF m 30 #[.val (.int p0), .val (.int p1), .val (.int p2), .unset, .unset] [(.int (5 : Int32)), (.ref b67), (.ref b67)])) _
    refine X77.ldcInt hx hown (mvT hZ (hw _ (List.mem_of_getElem? (i := 1) rfl))) (g := (mkF m 30 #[.val (.int p0), .val (.int p1), .val (.int p2), .unset, .unset] [(.int (5 : Int32)), (.ref b67), (.ref b67)])) rfl (hb hby at_30) _ ?_
    show Steps p.tables e below (T77.setTop (mkF m 32 #[.val (.int p0), .val (.int p1), .val (.int p2), .unset, .unset] [(.int (55295 : Int32)), (.int (5 : Int32)), (.ref b67), (.ref b67)])) _
    refine st79 _ ?_
    show Steps p.tables e below (T79.setTop (mkF m 33 #[.val (.int p0), .val (.int p1), .val (.int p2), .unset, .unset] [(.ref b67)])) _
    refine XS.dup X79.here hx rfl (hb hby at_33) rfl rfl ?_
    show Steps p.tables e below (T79.setTop (mkF m 34 #[.val (.int p0), .val (.int p1), .val (.int p2), .unset, .unset] [(.ref b67), (.ref b67)])) _
    refine XS.bipush X79.here hx rfl (hb hby at_34) ?_
    show Steps p.tables e below (T79.setTop (mkF m 36 #[.val (.int p0), .val (.int p1), .val (.int p2), .unset, .unset] [(.int (6 : Int32)), (.ref b67), (.ref b67)])) _
    refine X79.ldcInt hx hown (mvT hZ (hw _ (List.mem_of_getElem? (i := 2) rfl))) (g := (mkF m 36 #[.val (.int p0), .val (.int p1), .val (.int p2), .unset, .unset] [(.int (6 : Int32)), (.ref b67), (.ref b67)])) rfl (hb hby at_36) _ ?_
    show Steps p.tables e below (T79.setTop (mkF m 38 #[.val (.int p0), .val (.int p1), .val (.int p2), .unset, .unset] [(.int (55296 : Int32)), (.int (6 : Int32)), (.ref b67), (.ref b67)])) _
    refine st81 _ ?_
    show Steps p.tables e below (T81.setTop (mkF m 39 #[.val (.int p0), .val (.int p1), .val (.int p2), .unset, .unset] [(.ref b67)])) _
    refine XS.dup X81.here hx rfl (hb hby at_39) rfl rfl ?_
    show Steps p.tables e below (T81.setTop (mkF m 40 #[.val (.int p0), .val (.int p1), .val (.int p2), .unset, .unset] [(.ref b67), (.ref b67)])) _
    refine XS.bipush X81.here hx rfl (hb hby at_40) ?_
    show Steps p.tables e below (T81.setTop (mkF m 42 #[.val (.int p0), .val (.int p1), .val (.int p2), .unset, .unset] [(.int (7 : Int32)), (.ref b67), (.ref b67)])) _
    refine X81.ldcInt hx hown (mvT hZ (hw _ (List.mem_of_getElem? (i := 3) rfl))) (g := (mkF m 42 #[.val (.int p0), .val (.int p1), .val (.int p2), .unset, .unset] [(.int (7 : Int32)), (.ref b67), (.ref b67)])) rfl (hb hby at_42) _ ?_
    show Steps p.tables e below (T81.setTop (mkF m 44 #[.val (.int p0), .val (.int p1), .val (.int p2), .unset, .unset] [(.int (57343 : Int32)), (.int (7 : Int32)), (.ref b67), (.ref b67)])) _
    refine st83 _ ?_
    show Steps p.tables e below (T83.setTop (mkF m 45 #[.val (.int p0), .val (.int p1), .val (.int p2), .unset, .unset] [(.ref b67)])) _
    refine XS.dup X83.here hx rfl (hb hby at_45) rfl rfl ?_
    show Steps p.tables e below (T83.setTop (mkF m 46 #[.val (.int p0), .val (.int p1), .val (.int p2), .unset, .unset] [(.ref b67), (.ref b67)])) _
    refine XS.bipush X83.here hx rfl (hb hby at_46) ?_
    show Steps p.tables e below (T83.setTop (mkF m 48 #[.val (.int p0), .val (.int p1), .val (.int p2), .unset, .unset] [(.int (8 : Int32)), (.ref b67), (.ref b67)])) _
    refine X83.ldcInt hx hown (mvT hZ (hw _ (List.mem_of_getElem? (i := 4) rfl))) (g := (mkF m 48 #[.val (.int p0), .val (.int p1), .val (.int p2), .unset, .unset] [(.int (8 : Int32)), (.ref b67), (.ref b67)])) rfl (hb hby at_48) _ ?_
    show Steps p.tables e below (T83.setTop (mkF m 50 #[.val (.int p0), .val (.int p1), .val (.int p2), .unset, .unset] [(.int (57344 : Int32)), (.int (8 : Int32)), (.ref b67), (.ref b67)])) _
    refine st85 _ ?_
    show Steps p.tables e below (T85.setTop (mkF m 51 #[.val (.int p0), .val (.int p1), .val (.int p2), .unset, .unset] [(.ref b67)])) _
    refine XS.dup X85.here hx rfl (hb hby at_51) rfl rfl ?_
    show Steps p.tables e below (T85.setTop (mkF m 52 #[.val (.int p0), .val (.int p1), .val (.int p2), .unset, .unset] [(.ref b67), (.ref b67)])) _
    refine XS.bipush X85.here hx rfl (hb hby at_52) ?_
    show Steps p.tables e below (T85.setTop (mkF m 54 #[.val (.int p0), .val (.int p1), .val (.int p2), .unset, .unset] [(.int (9 : Int32)), (.ref b67), (.ref b67)])) _
    refine X85.ldcInt hx hown (mvT hZ (hw _ (List.mem_of_getElem? (i := 5) rfl))) (g := (mkF m 54 #[.val (.int p0), .val (.int p1), .val (.int p2), .unset, .unset] [(.int (9 : Int32)), (.ref b67), (.ref b67)])) rfl (hb hby at_54) _ ?_
    show Steps p.tables e below (T85.setTop (mkF m 56 #[.val (.int p0), .val (.int p1), .val (.int p2), .unset, .unset] [(.int (65533 : Int32)), (.int (9 : Int32)), (.ref b67), (.ref b67)])) _
    refine st87 _ ?_
    show Steps p.tables e below (T87.setTop (mkF m 57 #[.val (.int p0), .val (.int p1), .val (.int p2), .unset, .unset] [(.ref b67)])) _
    refine XS.dup X87.here hx rfl (hb hby at_57) rfl rfl ?_
    show Steps p.tables e below (T87.setTop (mkF m 58 #[.val (.int p0), .val (.int p1), .val (.int p2), .unset, .unset] [(.ref b67), (.ref b67)])) _
    refine XS.bipush X87.here hx rfl (hb hby at_58) ?_
    show Steps p.tables e below (T87.setTop (mkF m 60 #[.val (.int p0), .val (.int p1), .val (.int p2), .unset, .unset] [(.int (10 : Int32)), (.ref b67), (.ref b67)])) _
    refine X87.ldcInt hx hown (mvT hZ (hw _ (List.mem_of_getElem? (i := 6) rfl))) (g := (mkF m 60 #[.val (.int p0), .val (.int p1), .val (.int p2), .unset, .unset] [(.int (10 : Int32)), (.ref b67), (.ref b67)])) rfl (hb hby at_60) _ ?_
    show Steps p.tables e below (T87.setTop (mkF m 62 #[.val (.int p0), .val (.int p1), .val (.int p2), .unset, .unset] [(.int (65535 : Int32)), (.int (10 : Int32)), (.ref b67), (.ref b67)])) _
    refine st89 _ ?_
    show Steps p.tables e below (T89.setTop (mkF m 63 #[.val (.int p0), .val (.int p1), .val (.int p2), .unset, .unset] [(.ref b67)])) _
    refine XS.dup X89.here hx rfl (hb hby at_63) rfl rfl ?_
    show Steps p.tables e below (T89.setTop (mkF m 64 #[.val (.int p0), .val (.int p1), .val (.int p2), .unset, .unset] [(.ref b67), (.ref b67)])) _
    refine XS.bipush X89.here hx rfl (hb hby at_64) ?_
    show Steps p.tables e below (T89.setTop (mkF m 66 #[.val (.int p0), .val (.int p1), .val (.int p2), .unset, .unset] [(.int (11 : Int32)), (.ref b67), (.ref b67)])) _
    refine X89.ldcInt hx hown (mvT hZ (hw _ (List.mem_of_getElem? (i := 7) rfl))) (g := (mkF m 66 #[.val (.int p0), .val (.int p1), .val (.int p2), .unset, .unset] [(.int (11 : Int32)), (.ref b67), (.ref b67)])) rfl (hb hby at_66) _ ?_
    show Steps p.tables e below (T89.setTop (mkF m 68 #[.val (.int p0), .val (.int p1), .val (.int p2), .unset, .unset] [(.int (65536 : Int32)), (.int (11 : Int32)), (.ref b67), (.ref b67)])) _
    refine st91 _ ?_
    show Steps p.tables e below (T91.setTop (mkF m 69 #[.val (.int p0), .val (.int p1), .val (.int p2), .unset, .unset] [(.ref b67)])) _
    refine XS.dup X91.here hx rfl (hb hby at_69) rfl rfl ?_
    show Steps p.tables e below (T91.setTop (mkF m 70 #[.val (.int p0), .val (.int p1), .val (.int p2), .unset, .unset] [(.ref b67), (.ref b67)])) _
    refine XS.bipush X91.here hx rfl (hb hby at_70) ?_
    show Steps p.tables e below (T91.setTop (mkF m 72 #[.val (.int p0), .val (.int p1), .val (.int p2), .unset, .unset] [(.int (12 : Int32)), (.ref b67), (.ref b67)])) _
    refine X91.ldcInt hx hown (mvT hZ (hw _ (List.mem_of_getElem? (i := 8) rfl))) (g := (mkF m 72 #[.val (.int p0), .val (.int p1), .val (.int p2), .unset, .unset] [(.int (12 : Int32)), (.ref b67), (.ref b67)])) rfl (hb hby at_72) _ ?_
    show Steps p.tables e below (T91.setTop (mkF m 74 #[.val (.int p0), .val (.int p1), .val (.int p2), .unset, .unset] [(.int (1114111 : Int32)), (.int (12 : Int32)), (.ref b67), (.ref b67)])) _
    refine st93 _ ?_
    show Steps p.tables e below (T93.setTop (mkF m 75 #[.val (.int p0), .val (.int p1), .val (.int p2), .unset, .unset] [(.ref b67)])) _
    refine XS.dup X93.here hx rfl (hb hby at_75) rfl rfl ?_
    show Steps p.tables e below (T93.setTop (mkF m 76 #[.val (.int p0), .val (.int p1), .val (.int p2), .unset, .unset] [(.ref b67), (.ref b67)])) _
    refine XS.bipush X93.here hx rfl (hb hby at_76) ?_
    show Steps p.tables e below (T93.setTop (mkF m 78 #[.val (.int p0), .val (.int p1), .val (.int p2), .unset, .unset] [(.int (13 : Int32)), (.ref b67), (.ref b67)])) _
    refine X93.ldcInt hx hown (mvT hZ (hw _ (List.mem_of_getElem? (i := 9) rfl))) (g := (mkF m 78 #[.val (.int p0), .val (.int p1), .val (.int p2), .unset, .unset] [(.int (13 : Int32)), (.ref b67), (.ref b67)])) rfl (hb hby at_78) _ ?_
    show Steps p.tables e below (T93.setTop (mkF m 80 #[.val (.int p0), .val (.int p1), .val (.int p2), .unset, .unset] [(.int (1114112 : Int32)), (.int (13 : Int32)), (.ref b67), (.ref b67)])) _
    refine st95 _ ?_
    show Steps p.tables e below (T95.setTop (mkF m 81 #[.val (.int p0), .val (.int p1), .val (.int p2), .unset, .unset] [(.ref b67)])) _
    refine XS.dup X95.here hx rfl (hb hby at_81) rfl rfl ?_
    show Steps p.tables e below (T95.setTop (mkF m 82 #[.val (.int p0), .val (.int p1), .val (.int p2), .unset, .unset] [(.ref b67), (.ref b67)])) _
    refine XS.bipush X95.here hx rfl (hb hby at_82) ?_
    show Steps p.tables e below (T95.setTop (mkF m 84 #[.val (.int p0), .val (.int p1), .val (.int p2), .unset, .unset] [(.int (14 : Int32)), (.ref b67), (.ref b67)])) _
    refine X95.ldcInt hx hown (mvT hZ (hw _ (List.mem_of_getElem? (i := 10) rfl))) (g := (mkF m 84 #[.val (.int p0), .val (.int p1), .val (.int p2), .unset, .unset] [(.int (14 : Int32)), (.ref b67), (.ref b67)])) rfl (hb hby at_84) _ ?_
    show Steps p.tables e below (T95.setTop (mkF m 86 #[.val (.int p0), .val (.int p1), .val (.int p2), .unset, .unset] [(.int (-2147483648 : Int32)), (.int (14 : Int32)), (.ref b67), (.ref b67)])) _
    refine st97 _ ?_
    show Steps p.tables e below (T97.setTop (mkF m 87 #[.val (.int p0), .val (.int p1), .val (.int p2), .unset, .unset] [(.ref b67)])) _
    refine XS.dup X97.here hx rfl (hb hby at_87) rfl rfl ?_
    show Steps p.tables e below (T97.setTop (mkF m 88 #[.val (.int p0), .val (.int p1), .val (.int p2), .unset, .unset] [(.ref b67), (.ref b67)])) _
    refine XS.bipush X97.here hx rfl (hb hby at_88) ?_
    show Steps p.tables e below (T97.setTop (mkF m 90 #[.val (.int p0), .val (.int p1), .val (.int p2), .unset, .unset] [(.int (15 : Int32)), (.ref b67), (.ref b67)])) _
    refine X97.ldcInt hx hown (mvT hZ (hw _ (List.mem_of_getElem? (i := 11) rfl))) (g := (mkF m 90 #[.val (.int p0), .val (.int p1), .val (.int p2), .unset, .unset] [(.int (15 : Int32)), (.ref b67), (.ref b67)])) rfl (hb hby at_90) _ ?_
    show Steps p.tables e below (T97.setTop (mkF m 92 #[.val (.int p0), .val (.int p1), .val (.int p2), .unset, .unset] [(.int (2147483647 : Int32)), (.int (15 : Int32)), (.ref b67), (.ref b67)])) _
    refine st99 _ ?_
    show Steps p.tables e below (T99.setTop (mkF m 93 #[.val (.int p0), .val (.int p1), .val (.int p2), .unset, .unset] [(.ref b67)])) _
    refine XS.astoreN X99.here hx rfl (hb hby at_93) rfl rfl (l' := #[.val (.int p0), .val (.int p1), .val (.int p2), .val (.ref b67), .unset]) rfl ?_
    show Steps p.tables e below (T99.setTop (mkF m 94 #[.val (.int p0), .val (.int p1), .val (.int p2), .val (.ref b67), .unset] [])) _
    refine XS.iloadN X99.here hx rfl (hb hby at_94) rfl ?_
    show Steps p.tables e below (T99.setTop (mkF m 95 #[.val (.int p0), .val (.int p1), .val (.int p2), .val (.ref b67), .unset] [(.int p1)])) _
    refine XS.iconst X99.here hx rfl (hb hby at_95) ?_
    show Steps p.tables e below (T99.setTop (mkF m 96 #[.val (.int p0), .val (.int p1), .val (.int p2), .val (.ref b67), .unset] [(.int (1 : Int32)), (.int p1)])) _
    refine XS.iand X99.here hx rfl (hb hby at_96) rfl ?_
    exact k
  by_cases hc97 : (p1 &&& (1 : Int32)) = (0 : Int32)
  · obtain ⟨_, _, ⟨T101, L101, k101, n101⟩, -, X101, ⟨Lc101, hQ101, l101, y101, z101⟩, st101⟩ := Jvm.LawKit.callS X99 hx (y := (⟨"com/example/partybook/partybook/io/XmlParser", "isCharacter", "(I)Z"⟩ : MethodName)) hown (mvT hZ (hw _ (List.mem_of_getElem? (i := 12) rfl))) (mvT hZ (hw _ (List.mem_of_getElem? (i := 13) rfl))) (mvT hZ (hw _ (List.mem_of_getElem? (i := 14) rfl))) (mvT hZ (hw _ (List.mem_of_getElem? (i := 15) rfl))) (by decide) (backOf (W := 0) (rm1 l Z a0 hw [] p0 h99 n0 (Nat.le_trans Z0 K99.1) ) hZ (hw _ (List.mem_of_getElem? (i := 15) rfl)) (hw _ (List.mem_of_getElem? (i := 14) rfl)) (by decide) (by decide)) (g := (mkF m 125 #[.val (.int p0), .val (.int p1), .val (.int p2), .val (.ref b67), .val (.int p0)] [(.int p0)])) rfl (by rw [hml]; rfl) (argsL := [(.int p0)]) (rest := []) (lenOf own_pd0 rfl) rfl (by show 2 * 0 + _ ≤ _; exact Nat.le_of_eq rfl) (hb hby at_125) (fun _ _ => ⟨rfl, e99, (by decide : 1 + 0 ≤ _), (by decide : 16 + 0 ≤ _)⟩)
    dsimp only [Pt.U, Pt.locs, Pt.cells, Pt.slots] at X101 l101 y101 z101 st101 hQ101
    subst l101 y101 z101
    obtain ⟨rfl, N101q, e101⟩ := hQ101
    have N101 := Fr.app N99 N101q
    obtain ⟨_, _, ⟨T102, L102, k102, n102⟩, -, X102, ⟨Lc102, hQ102, l102, y102, z102⟩, st102⟩ := Jvm.LawKit.callS X101 hx (y := (⟨"com/example/partybook/partybook/io/XmlParserIsCharacterPinLaw", "allowed", "(I)Z"⟩ : MethodName)) hown (mvT hZ (hw _ (List.mem_of_getElem? (i := 18) rfl))) (mvT hZ (hw _ (List.mem_of_getElem? (i := 19) rfl))) (mvT hZ (hw _ (List.mem_of_getElem? (i := 20) rfl))) (mvT hZ (hw _ (List.mem_of_getElem? (i := 21) rfl))) (by decide) (backOf (W := 1) (rm2 l Z a0 hw [] p0 h99 n0 (Nat.le_trans Z0 K99.1) ) hZ (hw _ (List.mem_of_getElem? (i := 21) rfl)) (hw _ (List.mem_of_getElem? (i := 20) rfl)) (by decide) (by decide)) (g := (mkF m 130 #[.val (.int p0), .val (.int p1), .val (.int p2), .val (.ref b67), .val (.int p0)] [(.int p0), (.int (own_f_rm1 p0))])) rfl (by rw [hml]; rfl) (argsL := [(.int p0)]) (rest := [(.int (own_f_rm1 p0))]) (lenOf own_pd0 rfl) rfl (by show 2 * 0 + _ ≤ _; exact Nat.le_of_eq rfl) (hb hby at_130) (fun _ _ => ⟨rfl, e101, (by decide : 1 + 0 ≤ _), (by decide : 16 + 0 ≤ _)⟩)
    dsimp only [Pt.U, Pt.locs, Pt.cells, Pt.slots] at X102 l102 y102 z102 st102 hQ102
    subst l102 y102 z102
    obtain ⟨rfl, N102q, e102⟩ := hQ102
    have N102 := Fr.app N101 N102q
    have hc133_103 : (own_f_rm1 p0) = (own_f_rm2 p0) := own_eq _
    obtain ⟨fs, hr, hrun, hended, hW, hsame⟩ := X102.leave (v := some (.int (1 : Int32))) (fun h => by rw [Bd.returns] at h; cases h)
    refine ⟨_, _, pre100 _ ?_, hrun, hended, _, _, rfl, ?_, ⟨_, rfl⟩, hW, hsame.mono (by decide) (by decide)⟩
    · show Steps p.tables e below (T99.setTop (mkF m 97 #[.val (.int p0), .val (.int p1), .val (.int p2), .val (.ref b67), .unset] [(.int (p1 &&& (1 : Int32)))])) _
      refine XS.ifNo X99.here hx rfl (hb hby at_97) rfl ((if0 _ _).trans (teq hc97).2) ?_
      show Steps p.tables e below (T99.setTop (mkF m 100 #[.val (.int p0), .val (.int p1), .val (.int p2), .val (.ref b67), .unset] [])) _
      refine XS.iloadN X99.here hx rfl (hb hby at_100) rfl ?_
      show Steps p.tables e below (T99.setTop (mkF m 101 #[.val (.int p0), .val (.int p1), .val (.int p2), .val (.ref b67), .unset] [(.int p0)])) _
      refine XS.istore X99.here hx rfl (hb hby at_101) rfl (l' := #[.val (.int p0), .val (.int p1), .val (.int p2), .val (.ref b67), .val (.int p0)]) rfl ?_
      show Steps p.tables e below (T99.setTop (mkF m 103 #[.val (.int p0), .val (.int p1), .val (.int p2), .val (.ref b67), .val (.int p0)] [])) _
      refine XS.goto X99.here hx rfl (pc0 := 103) (pc' := 123) rfl (hb hby at_103) (by decide) (by decide) ?_
      show Steps p.tables e below (T99.setTop (mkF m 123 #[.val (.int p0), .val (.int p1), .val (.int p2), .val (.ref b67), .val (.int p0)] [])) _
      refine XS.iload X99.here hx rfl (hb hby at_123) rfl ?_
      show Steps p.tables e below (T99.setTop (mkF m 125 #[.val (.int p0), .val (.int p1), .val (.int p2), .val (.ref b67), .val (.int p0)] [(.int p0)])) _
      refine st101 _ ?_
      show Steps p.tables e below (T101.setTop (mkF m 128 #[.val (.int p0), .val (.int p1), .val (.int p2), .val (.ref b67), .val (.int p0)] [(.int (own_f_rm1 p0))])) _
      refine XS.iload X101.here hx rfl (hb hby at_128) rfl ?_
      show Steps p.tables e below (T101.setTop (mkF m 130 #[.val (.int p0), .val (.int p1), .val (.int p2), .val (.ref b67), .val (.int p0)] [(.int p0), (.int (own_f_rm1 p0))])) _
      refine st102 _ ?_
      show Steps p.tables e below (T102.setTop (mkF m 133 #[.val (.int p0), .val (.int p1), .val (.int p2), .val (.ref b67), .val (.int p0)] [(.int (own_f_rm2 p0)), (.int (own_f_rm1 p0))])) _
      refine XS.icmpNo X102.here hx rfl (hb hby at_133) rfl (teq hc133_103).2 ?_
      show Steps p.tables e below (T102.setTop (mkF m 136 #[.val (.int p0), .val (.int p1), .val (.int p2), .val (.ref b67), .val (.int p0)] [])) _
      refine XS.iconst X102.here hx rfl (hb hby at_136) ?_
      show Steps p.tables e below (T102.setTop (mkF m 137 #[.val (.int p0), .val (.int p1), .val (.int p2), .val (.ref b67), .val (.int p0)] [(.int (1 : Int32))])) _
      refine XS.goto X102.here hx rfl (pc0 := 137) (pc' := 141) rfl (hb hby at_137) (by decide) (by decide) ?_
      show Steps p.tables e below (T102.setTop (mkF m 141 #[.val (.int p0), .val (.int p1), .val (.int p2), .val (.ref b67), .val (.int p0)] [(.int (1 : Int32))])) _
      exact retN X102 hx (t := .boolean) Bd.returns (by simp) (hb hby at_141) hr
    · show Q0 Z p0 p1 p2 h0 n0 _ T102.heap _
      rw [e102]
      exact ⟨rfl, N102⟩
  · obtain ⟨cl104, Ar104, q104, S104, M104, H104, G104⟩ := id V99
    obtain ⟨xv104, hxv104⟩ := fit_I (G104 ((((p1.toUInt32 >>> ((1 : Int32) &&& 31).toUInt32).toInt32) % (16 : Int32))).toNatClampNeg (Nat.lt_of_not_le fun q => (inb_of S104 (own_ix p1)) (Or.inr q))) (Or.inl rfl)
    have hin104 : ¬ ((((p1.toUInt32 >>> ((1 : Int32) &&& 31).toUInt32).toInt32) % (16 : Int32)) < 0 ∨ cl104.slots.size ≤ ((((p1.toUInt32 >>> ((1 : Int32) &&& 31).toUInt32).toInt32) % (16 : Int32))).toNatClampNeg) := inb_of S104 (own_ix p1)
    have hat104 : cl104.slots[((((p1.toUInt32 >>> ((1 : Int32) &&& 31).toUInt32).toInt32) % (16 : Int32))).toNatClampNeg]? = some (.int xv104) := Has.at H104 hin104 hxv104
    obtain ⟨_, _, ⟨T105, L105, k105, n105⟩, -, X105, ⟨Lc105, hQ105, l105, y105, z105⟩, st105⟩ := Jvm.LawKit.callS X99 hx (y := (⟨"com/example/partybook/partybook/io/XmlParser", "isCharacter", "(I)Z"⟩ : MethodName)) hown (mvT hZ (hw _ (List.mem_of_getElem? (i := 12) rfl))) (mvT hZ (hw _ (List.mem_of_getElem? (i := 13) rfl))) (mvT hZ (hw _ (List.mem_of_getElem? (i := 14) rfl))) (mvT hZ (hw _ (List.mem_of_getElem? (i := 15) rfl))) (by decide) (backOf (W := 0) (rm1 l Z a0 hw [] (xv104 + ((p2 &&& (7 : Int32)) - (3 : Int32))) h99 n0 (Nat.le_trans Z0 K99.1) ) hZ (hw _ (List.mem_of_getElem? (i := 15) rfl)) (hw _ (List.mem_of_getElem? (i := 14) rfl)) (by decide) (by decide)) (g := (mkF m 125 #[.val (.int p0), .val (.int p1), .val (.int p2), .val (.ref b67), .val (.int (xv104 + ((p2 &&& (7 : Int32)) - (3 : Int32))))] [(.int (xv104 + ((p2 &&& (7 : Int32)) - (3 : Int32))))])) rfl (by rw [hml]; rfl) (argsL := [(.int (xv104 + ((p2 &&& (7 : Int32)) - (3 : Int32))))]) (rest := []) (lenOf own_pd0 rfl) rfl (by show 2 * 0 + _ ≤ _; exact Nat.le_of_eq rfl) (hb hby at_125) (fun _ _ => ⟨rfl, e99, (by decide : 1 + 0 ≤ _), (by decide : 16 + 0 ≤ _)⟩)
    dsimp only [Pt.U, Pt.locs, Pt.cells, Pt.slots] at X105 l105 y105 z105 st105 hQ105
    subst l105 y105 z105
    obtain ⟨rfl, N105q, e105⟩ := hQ105
    have N105 := Fr.app N99 N105q
    obtain ⟨_, _, ⟨T106, L106, k106, n106⟩, -, X106, ⟨Lc106, hQ106, l106, y106, z106⟩, st106⟩ := Jvm.LawKit.callS X105 hx (y := (⟨"com/example/partybook/partybook/io/XmlParserIsCharacterPinLaw", "allowed", "(I)Z"⟩ : MethodName)) hown (mvT hZ (hw _ (List.mem_of_getElem? (i := 18) rfl))) (mvT hZ (hw _ (List.mem_of_getElem? (i := 19) rfl))) (mvT hZ (hw _ (List.mem_of_getElem? (i := 20) rfl))) (mvT hZ (hw _ (List.mem_of_getElem? (i := 21) rfl))) (by decide) (backOf (W := 1) (rm2 l Z a0 hw [] (xv104 + ((p2 &&& (7 : Int32)) - (3 : Int32))) h99 n0 (Nat.le_trans Z0 K99.1) ) hZ (hw _ (List.mem_of_getElem? (i := 21) rfl)) (hw _ (List.mem_of_getElem? (i := 20) rfl)) (by decide) (by decide)) (g := (mkF m 130 #[.val (.int p0), .val (.int p1), .val (.int p2), .val (.ref b67), .val (.int (xv104 + ((p2 &&& (7 : Int32)) - (3 : Int32))))] [(.int (xv104 + ((p2 &&& (7 : Int32)) - (3 : Int32)))), (.int (own_f_rm1 (xv104 + ((p2 &&& (7 : Int32)) - (3 : Int32)))))])) rfl (by rw [hml]; rfl) (argsL := [(.int (xv104 + ((p2 &&& (7 : Int32)) - (3 : Int32))))]) (rest := [(.int (own_f_rm1 (xv104 + ((p2 &&& (7 : Int32)) - (3 : Int32)))))]) (lenOf own_pd0 rfl) rfl (by show 2 * 0 + _ ≤ _; exact Nat.le_of_eq rfl) (hb hby at_130) (fun _ _ => ⟨rfl, e105, (by decide : 1 + 0 ≤ _), (by decide : 16 + 0 ≤ _)⟩)
    dsimp only [Pt.U, Pt.locs, Pt.cells, Pt.slots] at X106 l106 y106 z106 st106 hQ106
    subst l106 y106 z106
    obtain ⟨rfl, N106q, e106⟩ := hQ106
    have N106 := Fr.app N105 N106q
    have hc133_107 : (own_f_rm1 (xv104 + ((p2 &&& (7 : Int32)) - (3 : Int32)))) = (own_f_rm2 (xv104 + ((p2 &&& (7 : Int32)) - (3 : Int32)))) := own_eq _
    obtain ⟨fs, hr, hrun, hended, hW, hsame⟩ := X106.leave (v := some (.int (1 : Int32))) (fun h => by rw [Bd.returns] at h; cases h)
    refine ⟨_, _, pre100 _ ?_, hrun, hended, _, _, rfl, ?_, ⟨_, rfl⟩, hW, hsame.mono (by decide) (by decide)⟩
    · show Steps p.tables e below (T99.setTop (mkF m 97 #[.val (.int p0), .val (.int p1), .val (.int p2), .val (.ref b67), .unset] [(.int (p1 &&& (1 : Int32)))])) _
      refine XS.ifYes X99.here hx rfl (pc0 := 97) (pc' := 106) rfl (hb hby at_97) rfl ((if0 _ _).trans (feq hc97).2) (by decide) (by decide) ?_
      show Steps p.tables e below (T99.setTop (mkF m 106 #[.val (.int p0), .val (.int p1), .val (.int p2), .val (.ref b67), .unset] [])) _
      refine XS.aloadN X99.here hx rfl (hb hby at_106) rfl rfl ?_
      show Steps p.tables e below (T99.setTop (mkF m 107 #[.val (.int p0), .val (.int p1), .val (.int p2), .val (.ref b67), .unset] [(.ref b67)])) _
      refine XS.iloadN X99.here hx rfl (hb hby at_107) rfl ?_
      show Steps p.tables e below (T99.setTop (mkF m 108 #[.val (.int p0), .val (.int p1), .val (.int p2), .val (.ref b67), .unset] [(.int p1), (.ref b67)])) _
      refine XS.iconst X99.here hx rfl (hb hby at_108) ?_
      show Steps p.tables e below (T99.setTop (mkF m 109 #[.val (.int p0), .val (.int p1), .val (.int p2), .val (.ref b67), .unset] [(.int (1 : Int32)), (.int p1), (.ref b67)])) _
      refine XS.iushr X99.here hx rfl (hb hby at_109) rfl ?_
      show Steps p.tables e below (T99.setTop (mkF m 110 #[.val (.int p0), .val (.int p1), .val (.int p2), .val (.ref b67), .unset] [(.int ((p1.toUInt32 >>> ((1 : Int32) &&& 31).toUInt32).toInt32)), (.ref b67)])) _
      refine XS.bipush X99.here hx rfl (hb hby at_110) ?_
      show Steps p.tables e below (T99.setTop (mkF m 112 #[.val (.int p0), .val (.int p1), .val (.int p2), .val (.ref b67), .unset] [(.int (16 : Int32)), (.int ((p1.toUInt32 >>> ((1 : Int32) &&& 31).toUInt32).toInt32)), (.ref b67)])) _
      refine iremM (g := (mkF m 112 #[.val (.int p0), .val (.int p1), .val (.int p2), .val (.ref b67), .unset] [(.int (16 : Int32)), (.int ((p1.toUInt32 >>> ((1 : Int32) &&& 31).toUInt32).toInt32)), (.ref b67)])) X99 hx rfl (hb hby at_112) rfl (by decide) ?_
      show Steps p.tables e below (T99.setTop (mkF m 113 #[.val (.int p0), .val (.int p1), .val (.int p2), .val (.ref b67), .unset] [(.int (((p1.toUInt32 >>> ((1 : Int32) &&& 31).toUInt32).toInt32) % (16 : Int32))), (.ref b67)])) _
      refine X99.iaload hx (j := (((p1.toUInt32 >>> ((1 : Int32) &&& 31).toUInt32).toInt32) % (16 : Int32))) (v := (.int xv104)) (by rw [e99]; exact Ar104.1) (State.isArrayOf_alike hZ.alike Ar104.2.1) Ar104.2.2 hin104 hat104 (g := (mkF m 113 #[.val (.int p0), .val (.int p1), .val (.int p2), .val (.ref b67), .unset] [(.int (((p1.toUInt32 >>> ((1 : Int32) &&& 31).toUInt32).toInt32) % (16 : Int32))), (.ref b67)])) rfl rfl (hb hby at_113) _ ?_
      show Steps p.tables e below (T99.setTop (mkF m 114 #[.val (.int p0), .val (.int p1), .val (.int p2), .val (.ref b67), .unset] [(.int xv104)])) _
      refine XS.iloadN X99.here hx rfl (hb hby at_114) rfl ?_
      show Steps p.tables e below (T99.setTop (mkF m 115 #[.val (.int p0), .val (.int p1), .val (.int p2), .val (.ref b67), .unset] [(.int p2), (.int xv104)])) _
      refine XS.bipush X99.here hx rfl (hb hby at_115) ?_
      show Steps p.tables e below (T99.setTop (mkF m 117 #[.val (.int p0), .val (.int p1), .val (.int p2), .val (.ref b67), .unset] [(.int (7 : Int32)), (.int p2), (.int xv104)])) _
      refine XS.iand X99.here hx rfl (hb hby at_117) rfl ?_
      show Steps p.tables e below (T99.setTop (mkF m 118 #[.val (.int p0), .val (.int p1), .val (.int p2), .val (.ref b67), .unset] [(.int (p2 &&& (7 : Int32))), (.int xv104)])) _
      refine XS.iconst X99.here hx rfl (hb hby at_118) ?_
      show Steps p.tables e below (T99.setTop (mkF m 119 #[.val (.int p0), .val (.int p1), .val (.int p2), .val (.ref b67), .unset] [(.int (3 : Int32)), (.int (p2 &&& (7 : Int32))), (.int xv104)])) _
      refine XS.isub X99.here hx rfl (hb hby at_119) rfl ?_
      show Steps p.tables e below (T99.setTop (mkF m 120 #[.val (.int p0), .val (.int p1), .val (.int p2), .val (.ref b67), .unset] [(.int ((p2 &&& (7 : Int32)) - (3 : Int32))), (.int xv104)])) _
      refine XS.iadd X99.here hx rfl (hb hby at_120) rfl ?_
      show Steps p.tables e below (T99.setTop (mkF m 121 #[.val (.int p0), .val (.int p1), .val (.int p2), .val (.ref b67), .unset] [(.int (xv104 + ((p2 &&& (7 : Int32)) - (3 : Int32))))])) _
      refine XS.istore X99.here hx rfl (hb hby at_121) rfl (l' := #[.val (.int p0), .val (.int p1), .val (.int p2), .val (.ref b67), .val (.int (xv104 + ((p2 &&& (7 : Int32)) - (3 : Int32))))]) rfl ?_
      show Steps p.tables e below (T99.setTop (mkF m 123 #[.val (.int p0), .val (.int p1), .val (.int p2), .val (.ref b67), .val (.int (xv104 + ((p2 &&& (7 : Int32)) - (3 : Int32))))] [])) _
      refine XS.iload X99.here hx rfl (hb hby at_123) rfl ?_
      show Steps p.tables e below (T99.setTop (mkF m 125 #[.val (.int p0), .val (.int p1), .val (.int p2), .val (.ref b67), .val (.int (xv104 + ((p2 &&& (7 : Int32)) - (3 : Int32))))] [(.int (xv104 + ((p2 &&& (7 : Int32)) - (3 : Int32))))])) _
      refine st105 _ ?_
      show Steps p.tables e below (T105.setTop (mkF m 128 #[.val (.int p0), .val (.int p1), .val (.int p2), .val (.ref b67), .val (.int (xv104 + ((p2 &&& (7 : Int32)) - (3 : Int32))))] [(.int (own_f_rm1 (xv104 + ((p2 &&& (7 : Int32)) - (3 : Int32)))))])) _
      refine XS.iload X105.here hx rfl (hb hby at_128) rfl ?_
      show Steps p.tables e below (T105.setTop (mkF m 130 #[.val (.int p0), .val (.int p1), .val (.int p2), .val (.ref b67), .val (.int (xv104 + ((p2 &&& (7 : Int32)) - (3 : Int32))))] [(.int (xv104 + ((p2 &&& (7 : Int32)) - (3 : Int32)))), (.int (own_f_rm1 (xv104 + ((p2 &&& (7 : Int32)) - (3 : Int32)))))])) _
      refine st106 _ ?_
      show Steps p.tables e below (T106.setTop (mkF m 133 #[.val (.int p0), .val (.int p1), .val (.int p2), .val (.ref b67), .val (.int (xv104 + ((p2 &&& (7 : Int32)) - (3 : Int32))))] [(.int (own_f_rm2 (xv104 + ((p2 &&& (7 : Int32)) - (3 : Int32))))), (.int (own_f_rm1 (xv104 + ((p2 &&& (7 : Int32)) - (3 : Int32)))))])) _
      refine XS.icmpNo X106.here hx rfl (hb hby at_133) rfl (teq hc133_107).2 ?_
      show Steps p.tables e below (T106.setTop (mkF m 136 #[.val (.int p0), .val (.int p1), .val (.int p2), .val (.ref b67), .val (.int (xv104 + ((p2 &&& (7 : Int32)) - (3 : Int32))))] [])) _
      refine XS.iconst X106.here hx rfl (hb hby at_136) ?_
      show Steps p.tables e below (T106.setTop (mkF m 137 #[.val (.int p0), .val (.int p1), .val (.int p2), .val (.ref b67), .val (.int (xv104 + ((p2 &&& (7 : Int32)) - (3 : Int32))))] [(.int (1 : Int32))])) _
      refine XS.goto X106.here hx rfl (pc0 := 137) (pc' := 141) rfl (hb hby at_137) (by decide) (by decide) ?_
      show Steps p.tables e below (T106.setTop (mkF m 141 #[.val (.int p0), .val (.int p1), .val (.int p2), .val (.ref b67), .val (.int (xv104 + ((p2 &&& (7 : Int32)) - (3 : Int32))))] [(.int (1 : Int32))])) _
      exact retN X106 hx (t := .boolean) Bd.returns (by simp) (hb hby at_141) hr
    · show Q0 Z p0 p1 p2 h0 n0 _ T106.heap _
      rw [e106]
      exact ⟨rfl, N106⟩
set_option maxRecDepth 65536 in
set_option maxHeartbeats 40000000 in
theorem comes_1 {Post : Tables → Env → Array Value → State → Outcome → State → Prop} (hpost : ∀ tb e args s v u, (limb_1_1.after args s (.returned v) u = true ∧ limb_1_2.after args s (.returned v) u = true ∧ True) → FrameEnd s (.returned v) u (Jvm.fieldLocs frame_1_writes args s ++ Jvm.arrayLocs frame_1_arrays args s ++ Jvm.staticLocs frame_1_statics s) 16 128 → Post tb e args s (.returned v) u) :
    ArmFor flags0 classFile x code maxLocals ret World_1 tables_1 room_1 Calls_1 rest_1 Pre_1 Post := by
  intro l hfl _ _ p e ha hc hk s m args below hf hA hF happ hP
  obtain ⟨hcalls, hrest, hpre⟩ := hP
  obtain ⟨-, -, -, hnamed, -, -, -, hat⟩ := (Spec.applies_iff hf).mp happ
  obtain ⟨hg, hn⟩ := and_e (Cond.before_iff.mp (show (Jvm.Cond.and given_1 narrow_1).before args s = true from hpre))
  obtain ⟨hcount, hg0⟩ := and_e hg
  obtain ⟨hi0, hg1⟩ := and_e hg0
  obtain ⟨hi1, hg2⟩ := and_e hg1
  have hi2 := hg2
  obtain ⟨w0, w1, w2, rfl⟩ : ∃ w0 w1 w2 : Value, args = #[w0, w1, w2] := by
    have hs : args.size = 3 := by simpa [Cond.value, given_1] using hcount
    obtain ⟨L⟩ := args
    match L, hs with
    | [w0, w1, w2], _ => exact ⟨w0, w1, w2, rfl⟩
  have hw := fun d (hd : d ∈ tables_1) => atoms_spec (ws := Jvm.Cond.code x code maxLocals ret :: tables_1) hat d (List.mem_cons_of_mem _ hd)
  have hfit : Fit s := fun {y c} hc i hi => by
    obtain ⟨ha, rfl⟩ := Array.getElem?_eq_some_iff.mp hc
    have q := List.all_eq_true.mp ((Array.all_eq_true_iff_forall_mem.mp hF) _ (Array.getElem_mem ha)) i (List.mem_range.mpr hi)
    simpa [Array.getElem?_eq_getElem hi] using q
  obtain ⟨i0, ei0⟩ := is_v hi0
  obtain rfl : w0 = (.int i0) := Option.some.inj ei0
  obtain ⟨i1, ei1⟩ := is_v hi1
  obtain rfl : w1 = (.int i1) := Option.some.inj ei1
  obtain ⟨i2, ei2⟩ := is_v hi2
  obtain rfl : w2 = (.int i2) := Option.some.inj ei2
  obtain ⟨n, o, h1, h2, h3, _, L, rfl, ⟨rfl, N⟩, hq⟩ := rm0 l s _ hw tables_1 i0 i1 i2  s.heap s.heap.size (Nat.le_refl _)  p e ha hc hk s m _ below hf ((Spec.applies_iff_loose hf).mp happ).1 ⟨rfl, State.Warmed39.refl s, rfl⟩ trivial
  refine ⟨n, _, h1, h2, h3, hpost _ _ _ _ _ _ ⟨Cond.after_iff.mpr rfl, Cond.after_iff.mpr (eq_i res_at (Term.int_eval (1)) rfl), trivial⟩ ⟨hq.1, hq.2.1, (hq.2.2.sift fun y hy => Or.inr (N y hy)).mono (by decide) (by decide)⟩⟩
theorem main_1_1 : Claimed_1_1 := comes_1 fun _ _ _ _ _ _ h hF => ⟨h.1, hF⟩
theorem main_1_2 : Claimed_1_2 := comes_1 fun _ _ _ _ _ _ h hF => ⟨h.2.1, hF⟩
end Jvm.Pilot.@@N@@
namespace Jvm.Pilot.@@N@@
open Jvm Jvm.ClassFile Sem Op Lib Jvm.Free Jvm.Stand Jvm.Pilot.@@N@@.Jvm.D
/-! MADE BY PROGRAM (witnessworld.py) out of the Statement's table words and the real class files: 9 classes; the members and pool entries that the words name. The judged class is class 1, her method 2. -/
namespace start1
open Jvm.ClassFile
def u (s : String) : CpInfo := .utf8 (stringToUtf16 s)
/-- a pool by its gaps: so many unusable entries, then the entry; so many at the end -/
def gap : Nat → List CpInfo → List CpInfo
  | 0, r => r
  | n + 1, r => .unusable :: gap n r
def poolList (es : List (Nat × CpInfo)) (last : Nat) : List CpInfo := es.foldr (fun e r => gap e.1 (e.2 :: r)) (gap last [])
def pool (es : List (Nat × CpInfo)) (last : Nat) : Array CpInfo := ⟨poolList es last⟩
def fileOf (pool : Array CpInfo) (this : Nat) (attrs : Array Attribute := #[]) (ms : Array MethodInfo := #[]) (fl : Nat := 33) (sup : Nat := 0) (ifs : Array Nat := #[]) (fds : Array FieldInfo := #[]) : ClassFile where
  minorVersion := 0
  majorVersion := 65
  constantPool := pool
  accessFlags := fl
  thisClass := this
  superClass := sup
  interfaces := ifs
  fields := fds
  methods := ms
  attributes := attrs
def plain (name : String) (sup : Option ClassId) : Class where
  name := name
  kind := .ordinary
  loader := none
  accessFlags := 33
  super := sup
  interfaces := #[]
  cf := none
  fields := #[]
  methods := #[]
  instanceTypes := #[]
  staticTypes := #[]
  resolved := #[]
  callSites := []
  init := .initialized
  statics := none
  mirror := none

def pool0 : Array CpInfo := pool [(5, u "<init>"), (0, u "()V"), (1, .class_ 10), (1, u "java/lang/Object")] 113

def k0m0 : Method := { name := "<init>", desc := "()V", sig := { parameters := [], returnType := none }, accessFlags := 1, code := none }
/-- java/lang/Object -/
def k0 : Class := { plain "java/lang/Object" none with
  accessFlags := 33
  interfaces := #[]
  cf := some (fileOf pool0 8 #[] #[{ accessFlags := 1, nameIndex := 5, descriptorIndex := 6, attributes := #[] }] 33 0 #[] #[])
  fields := #[]
  methods := #[k0m0]
  instanceTypes := #[]
  staticTypes := #[]
  resolved := Array.replicate 124 none
  statics := none }

def pool1 : Array CpInfo := pool [(2, .class_ 4), (1, u "java/lang/Object"), (0, u "<init>"), (0, u "()V"), (0, .integer 55296), (0, .integer 57343), (0, .integer 65534), (0, .integer 65535), (0, .integer 1114111), (0, .integer 55295), (0, .integer 57344), (0, .integer 65533), (0, .integer 65536), (0, .integer 1114112), (2, .integer 2147483648), (0, .integer 2147483647), (0, .methodref 22 23), (0, .class_ 24), (0, .nameAndType 25 26), (0, u "com/example/partybook/partybook/io/XmlParser"), (0, u "isCharacter"), (0, u "(I)Z"), (0, .methodref 28 29), (0, .class_ 30), (0, .nameAndType 31 26), (0, u "com/example/partybook/partybook/io/XmlParserIsCharacterPinLaw"), (0, u "allowed"), (3, u "law"), (0, u "(III)Z")] 4

def k1m0 : Method := { name := "<init>", desc := "()V", sig := { parameters := [], returnType := none }, accessFlags := 2, code := none }
def k1c1 : Code := { maxStack := 2, maxLocals := 1, code := method_2_code, exceptionTable := #[], attributes := #[] }
def k1m1 : Method := { name := "allowed", desc := "(I)Z", sig := { parameters := [.int], returnType := some .boolean }, accessFlags := 10, code := some k1c1 }
def k1c2 : Code := { maxStack := 4, maxLocals := 5, code := code, exceptionTable := #[], attributes := #[] }
def k1m2 : Method := { name := "law", desc := "(III)Z", sig := { parameters := [.int, .int, .int], returnType := some .boolean }, accessFlags := 9, code := some k1c2 }
/-- com/example/partybook/partybook/io/XmlParserIsCharacterPinLaw -/
def k1 : Class := { plain "com/example/partybook/partybook/io/XmlParserIsCharacterPinLaw" (some 0) with
  accessFlags := 49
  interfaces := #[]
  cf := some (fileOf pool1 28 #[] #[{ accessFlags := 2, nameIndex := 5, descriptorIndex := 6, attributes := #[] }, { accessFlags := 10, nameIndex := 31, descriptorIndex := 26, attributes := #[] }, { accessFlags := 9, nameIndex := 35, descriptorIndex := 36, attributes := #[] }] 49 2 #[] #[])
  fields := #[]
  methods := #[k1m0, k1m1, k1m2]
  instanceTypes := #[]
  staticTypes := #[]
  resolved := Array.replicate 41 none
  statics := none }

def pool2 : Array CpInfo := pool [(2, .class_ 4), (1, u "java/lang/Object"), (2, .class_ 8), (0, u "com/example/partybook/partybook/io/XmlParser"), (3, u "buffer"), (0, u "[C"), (2, u "mark"), (0, u "I"), (2, u "line"), (4, u "symbols"), (0, u "[Ljava/lang/String;"), (3, u "symbolChars"), (0, u "[[C"), (2, u "openNames"), (2, u "openNameChars"), (2, u "openLocalNames"), (2, u "openNamespaces"), (2, u "openLines"), (0, u "[I"), (2, u "bindingsBefore"), (2, u "boundPrefixes"), (2, u "boundNamespaces"), (2, u "attributeNames"), (2, u "attributePrefixes"), (2, u "attributeLocalNames"), (2, u "attributeValues"), (2, u "attributeNamespaces"), (2, u "text"), (2, u "textStart"), (2, u "decoder"), (0, u "Lcom/example/partybook/partybook/io/XmlDecoder;"), (28, u "endDue"), (0, u "Z"), (6, u "depth"), (2, u "rootStarted"), (15, u "localName"), (0, u "Ljava/lang/String;"), (2, u "namespace"), (2, u "attributeCount"), (6, u "textEnd"), (5, u "textLength"), (2, u "textIsSpace"), (9, u "(I)Z"), (2, u "pos"), (28, .class_ 204), (1, u "com/example/partybook/partybook/io/XmlParser$Event"), (49, u "limit"), (98, u "isCharacter"), (6, u "lastSymbolChars"), (2, u "readPrefix"), (2, u "readLocalName"), (14, u "bindings"), (175, u "fault"), (0, u "Lcom/example/partybook/partybook/io/XmlDecoder$Malformed;"), (2, u "inputEnded"), (3, .integer 55295), (0, .integer 57344), (0, .integer 65533), (0, .integer 65536), (0, .integer 1114111), (2, u "ASCII_NAME"), (0, u "[B"), (10, u "XML_NAMESPACE"), (1, u "XMLNS_NAMESPACE"), (0, u "XMLNS"), (0, u "XML"), (0, u "BUFFER_SIZE"), (0, u "SYMBOLS"), (1, u "SYMBOL_PROBES"), (1, u "FEW_ATTRIBUTES"), (0, u "NAME_START"), (0, u "B"), (1, u "NAME_CHAR")] 81

def k2c0 : Code := { maxStack := 2, maxLocals := 1, code := prog_40_method_51_code, exceptionTable := #[], attributes := #[] }
def k2m0 : Method := { name := "isCharacter", desc := "(I)Z", sig := { parameters := [.int], returnType := some .boolean }, accessFlags := 8, code := some k2c0 }
/-- com/example/partybook/partybook/io/XmlParser -/
def k2 : Class := { plain "com/example/partybook/partybook/io/XmlParser" (some 0) with
  accessFlags := 48
  interfaces := #[]
  cf := some (fileOf pool2 7 #[.nestMembers #[202]] #[{ accessFlags := 8, nameIndex := 353, descriptorIndex := 170, attributes := #[] }] 48 2 #[] #[{ accessFlags := 26, nameIndex := 584, descriptorIndex := 138, attributes := #[] }, { accessFlags := 26, nameIndex := 586, descriptorIndex := 138, attributes := #[] }, { accessFlags := 26, nameIndex := 587, descriptorIndex := 138, attributes := #[] }, { accessFlags := 26, nameIndex := 588, descriptorIndex := 138, attributes := #[] }, { accessFlags := 26, nameIndex := 589, descriptorIndex := 17, attributes := #[] }, { accessFlags := 26, nameIndex := 590, descriptorIndex := 17, attributes := #[] }, { accessFlags := 26, nameIndex := 592, descriptorIndex := 17, attributes := #[] }, { accessFlags := 26, nameIndex := 594, descriptorIndex := 17, attributes := #[] }, { accessFlags := 26, nameIndex := 572, descriptorIndex := 573, attributes := #[] }, { accessFlags := 26, nameIndex := 595, descriptorIndex := 596, attributes := #[] }, { accessFlags := 26, nameIndex := 598, descriptorIndex := 596, attributes := #[] }, { accessFlags := 18, nameIndex := 80, descriptorIndex := 81, attributes := #[] }, { accessFlags := 2, nameIndex := 12, descriptorIndex := 13, attributes := #[] }, { accessFlags := 2, nameIndex := 173, descriptorIndex := 17, attributes := #[] }, { accessFlags := 2, nameIndex := 254, descriptorIndex := 17, attributes := #[] }, { accessFlags := 2, nameIndex := 16, descriptorIndex := 17, attributes := #[] }, { accessFlags := 2, nameIndex := 561, descriptorIndex := 111, attributes := #[] }, { accessFlags := 2, nameIndex := 557, descriptorIndex := 558, attributes := #[] }, { accessFlags := 2, nameIndex := 20, descriptorIndex := 17, attributes := #[] }, { accessFlags := 18, nameIndex := 25, descriptorIndex := 26, attributes := #[] }, { accessFlags := 18, nameIndex := 30, descriptorIndex := 31, attributes := #[] }, { accessFlags := 2, nameIndex := 360, descriptorIndex := 13, attributes := #[] }, { accessFlags := 2, nameIndex := 34, descriptorIndex := 26, attributes := #[] }, { accessFlags := 2, nameIndex := 37, descriptorIndex := 31, attributes := #[] }, { accessFlags := 2, nameIndex := 40, descriptorIndex := 26, attributes := #[] }, { accessFlags := 2, nameIndex := 43, descriptorIndex := 26, attributes := #[] }, { accessFlags := 2, nameIndex := 46, descriptorIndex := 47, attributes := #[] }, { accessFlags := 2, nameIndex := 50, descriptorIndex := 47, attributes := #[] }, { accessFlags := 2, nameIndex := 118, descriptorIndex := 17, attributes := #[] }, { accessFlags := 2, nameIndex := 121, descriptorIndex := 111, attributes := #[] }, { accessFlags := 2, nameIndex := 110, descriptorIndex := 111, attributes := #[] }, { accessFlags := 2, nameIndex := 53, descriptorIndex := 26, attributes := #[] }, { accessFlags := 2, nameIndex := 56, descriptorIndex := 26, attributes := #[] }, { accessFlags := 2, nameIndex := 381, descriptorIndex := 17, attributes := #[] }, { accessFlags := 2, nameIndex := 137, descriptorIndex := 138, attributes := #[] }, { accessFlags := 2, nameIndex := 141, descriptorIndex := 138, attributes := #[] }, { accessFlags := 2, nameIndex := 363, descriptorIndex := 138, attributes := #[] }, { accessFlags := 2, nameIndex := 366, descriptorIndex := 138, attributes := #[] }, { accessFlags := 2, nameIndex := 59, descriptorIndex := 26, attributes := #[] }, { accessFlags := 2, nameIndex := 62, descriptorIndex := 26, attributes := #[] }, { accessFlags := 2, nameIndex := 65, descriptorIndex := 26, attributes := #[] }, { accessFlags := 2, nameIndex := 68, descriptorIndex := 26, attributes := #[] }, { accessFlags := 2, nameIndex := 71, descriptorIndex := 26, attributes := #[] }, { accessFlags := 2, nameIndex := 144, descriptorIndex := 17, attributes := #[] }, { accessFlags := 2, nameIndex := 74, descriptorIndex := 13, attributes := #[] }, { accessFlags := 2, nameIndex := 157, descriptorIndex := 17, attributes := #[] }, { accessFlags := 2, nameIndex := 77, descriptorIndex := 17, attributes := #[] }, { accessFlags := 2, nameIndex := 151, descriptorIndex := 17, attributes := #[] }, { accessFlags := 2, nameIndex := 160, descriptorIndex := 111, attributes := #[] }])
  fields := #[{ name := "XML_NAMESPACE", type := (.object "java/lang/String"), accessFlags := 26, slot := 0, constantValue := 0 }, { name := "XMLNS_NAMESPACE", type := (.object "java/lang/String"), accessFlags := 26, slot := 1, constantValue := 0 }, { name := "XMLNS", type := (.object "java/lang/String"), accessFlags := 26, slot := 2, constantValue := 0 }, { name := "XML", type := (.object "java/lang/String"), accessFlags := 26, slot := 3, constantValue := 0 }, { name := "BUFFER_SIZE", type := .int, accessFlags := 26, slot := 4, constantValue := 0 }, { name := "SYMBOLS", type := .int, accessFlags := 26, slot := 5, constantValue := 0 }, { name := "SYMBOL_PROBES", type := .int, accessFlags := 26, slot := 6, constantValue := 0 }, { name := "FEW_ATTRIBUTES", type := .int, accessFlags := 26, slot := 7, constantValue := 0 }, { name := "ASCII_NAME", type := (.array .byte), accessFlags := 26, slot := 8, constantValue := 0 }, { name := "NAME_START", type := .byte, accessFlags := 26, slot := 9, constantValue := 0 }, { name := "NAME_CHAR", type := .byte, accessFlags := 26, slot := 10, constantValue := 0 }, { name := "decoder", type := (.object "com/example/partybook/partybook/io/XmlDecoder"), accessFlags := 18, slot := 0, constantValue := 0 }, { name := "buffer", type := (.array .char), accessFlags := 2, slot := 1, constantValue := 0 }, { name := "pos", type := .int, accessFlags := 2, slot := 2, constantValue := 0 }, { name := "limit", type := .int, accessFlags := 2, slot := 3, constantValue := 0 }, { name := "mark", type := .int, accessFlags := 2, slot := 4, constantValue := 0 }, { name := "inputEnded", type := .boolean, accessFlags := 2, slot := 5, constantValue := 0 }, { name := "fault", type := (.object "com/example/partybook/partybook/io/XmlDecoder$Malformed"), accessFlags := 2, slot := 6, constantValue := 0 }, { name := "line", type := .int, accessFlags := 2, slot := 7, constantValue := 0 }, { name := "symbols", type := (.array (.object "java/lang/String")), accessFlags := 18, slot := 8, constantValue := 0 }, { name := "symbolChars", type := (.array (.array .char)), accessFlags := 18, slot := 9, constantValue := 0 }, { name := "lastSymbolChars", type := (.array .char), accessFlags := 2, slot := 10, constantValue := 0 }, { name := "openNames", type := (.array (.object "java/lang/String")), accessFlags := 2, slot := 11, constantValue := 0 }, { name := "openNameChars", type := (.array (.array .char)), accessFlags := 2, slot := 12, constantValue := 0 }, { name := "openLocalNames", type := (.array (.object "java/lang/String")), accessFlags := 2, slot := 13, constantValue := 0 }, { name := "openNamespaces", type := (.array (.object "java/lang/String")), accessFlags := 2, slot := 14, constantValue := 0 }, { name := "openLines", type := (.array .int), accessFlags := 2, slot := 15, constantValue := 0 }, { name := "bindingsBefore", type := (.array .int), accessFlags := 2, slot := 16, constantValue := 0 }, { name := "depth", type := .int, accessFlags := 2, slot := 17, constantValue := 0 }, { name := "rootStarted", type := .boolean, accessFlags := 2, slot := 18, constantValue := 0 }, { name := "endDue", type := .boolean, accessFlags := 2, slot := 19, constantValue := 0 }, { name := "boundPrefixes", type := (.array (.object "java/lang/String")), accessFlags := 2, slot := 20, constantValue := 0 }, { name := "boundNamespaces", type := (.array (.object "java/lang/String")), accessFlags := 2, slot := 21, constantValue := 0 }, { name := "bindings", type := .int, accessFlags := 2, slot := 22, constantValue := 0 }, { name := "localName", type := (.object "java/lang/String"), accessFlags := 2, slot := 23, constantValue := 0 }, { name := "namespace", type := (.object "java/lang/String"), accessFlags := 2, slot := 24, constantValue := 0 }, { name := "readPrefix", type := (.object "java/lang/String"), accessFlags := 2, slot := 25, constantValue := 0 }, { name := "readLocalName", type := (.object "java/lang/String"), accessFlags := 2, slot := 26, constantValue := 0 }, { name := "attributeNames", type := (.array (.object "java/lang/String")), accessFlags := 2, slot := 27, constantValue := 0 }, { name := "attributePrefixes", type := (.array (.object "java/lang/String")), accessFlags := 2, slot := 28, constantValue := 0 }, { name := "attributeLocalNames", type := (.array (.object "java/lang/String")), accessFlags := 2, slot := 29, constantValue := 0 }, { name := "attributeValues", type := (.array (.object "java/lang/String")), accessFlags := 2, slot := 30, constantValue := 0 }, { name := "attributeNamespaces", type := (.array (.object "java/lang/String")), accessFlags := 2, slot := 31, constantValue := 0 }, { name := "attributeCount", type := .int, accessFlags := 2, slot := 32, constantValue := 0 }, { name := "text", type := (.array .char), accessFlags := 2, slot := 33, constantValue := 0 }, { name := "textLength", type := .int, accessFlags := 2, slot := 34, constantValue := 0 }, { name := "textStart", type := .int, accessFlags := 2, slot := 35, constantValue := 0 }, { name := "textEnd", type := .int, accessFlags := 2, slot := 36, constantValue := 0 }, { name := "textIsSpace", type := .boolean, accessFlags := 2, slot := 37, constantValue := 0 }]
  methods := #[k2m0]
  instanceTypes := #[(.object "com/example/partybook/partybook/io/XmlDecoder"), (.array .char), .int, .int, .int, .boolean, (.object "com/example/partybook/partybook/io/XmlDecoder$Malformed"), .int, (.array (.object "java/lang/String")), (.array (.array .char)), (.array .char), (.array (.object "java/lang/String")), (.array (.array .char)), (.array (.object "java/lang/String")), (.array (.object "java/lang/String")), (.array .int), (.array .int), .int, .boolean, .boolean, (.array (.object "java/lang/String")), (.array (.object "java/lang/String")), .int, (.object "java/lang/String"), (.object "java/lang/String"), (.object "java/lang/String"), (.object "java/lang/String"), (.array (.object "java/lang/String")), (.array (.object "java/lang/String")), (.array (.object "java/lang/String")), (.array (.object "java/lang/String")), (.array (.object "java/lang/String")), .int, (.array .char), .int, .int, .int, .boolean]
  staticTypes := #[(.object "java/lang/String"), (.object "java/lang/String"), (.object "java/lang/String"), (.object "java/lang/String"), .int, .int, .int, .int, (.array .byte), .byte, .byte]
  resolved := Array.replicate 680 none
  statics := none }

def pool3 : Array CpInfo := pool [(1, u "java/lang/Cloneable"), (0, .class_ 1), (0, u "java/lang/Object"), (0, .class_ 3)] 3

/-- java/lang/Cloneable -/
def k3 : Class := { plain "java/lang/Cloneable" (some 0) with
  accessFlags := 1537
  interfaces := #[]
  cf := some (fileOf pool3 2 #[] #[] 1537 4 #[] #[])
  fields := #[]
  methods := #[]
  instanceTypes := #[]
  staticTypes := #[]
  resolved := Array.replicate 8 none
  statics := none }

def pool4 : Array CpInfo := pool [(1, u "java/io/Serializable"), (0, .class_ 1), (0, u "java/lang/Object"), (0, .class_ 3)] 3

/-- java/io/Serializable -/
def k4 : Class := { plain "java/io/Serializable" (some 0) with
  accessFlags := 1537
  interfaces := #[]
  cf := some (fileOf pool4 2 #[] #[] 1537 4 #[] #[])
  fields := #[]
  methods := #[]
  instanceTypes := #[]
  staticTypes := #[]
  resolved := Array.replicate 8 none
  statics := none }

/-- the primitive byte -/
def k5 : Class := { plain "byte" none with kind := .primitive 'B', accessFlags := 0x411 }
/-- [B -/
def k6 : Class := { plain "[B" (some 0) with kind := .array 5 .byte, interfaces := #[3, 4], accessFlags := 1041 }

/-- the primitive int -/
def k7 : Class := { plain "int" none with kind := .primitive 'I', accessFlags := 0x411 }
/-- [I -/
def k8 : Class := { plain "[I" (some 0) with kind := .array 7 .int, interfaces := #[3, 4], accessFlags := 1041 }

def heap : Heap := #[]
def classes : Array Class := #[k0, k1, k2, k3, k4, k5, k6, k7, k8]
def interned : List (Array UInt16 × Addr) := []
def slotsUsed : Nat := 0
def theMethod : MethodId := ⟨1, 2⟩
def args0 : Array Value := #[.int 5, .int 3, .int 4]
def aboutOver (below : List Frame) : State where
  vm := { classes := classes, interned := interned.toArray }
  heap := heap
  slotsUsed := slotsUsed
  threads := #[{ frames := .invoking theMethod args0 :: below }]
def below0 : List Frame := [.native { method := ⟨0, 0⟩, args := #[] }]
def about1 : State := aboutOver below0
def p0 : Program := .bare "" "" ""
def e0 : Env := launch0.env 0 0 0
theorem w_frames : about1.frames = Frame.invoking theMethod args0 :: below0 := rfl
set_option maxRecDepth 65536 in
theorem w_args : argsFit about1.vm theMethod args0 = true := by decide +kernel
set_option maxRecDepth 65536 in
theorem w_heap : heapFits about1 = true := by decide +kernel
set_option maxRecDepth 65536 in
theorem w_runnable : about1.curStatus? = some .runnable := by decide +kernel
set_option maxRecDepth 65536 in
theorem w_alone : about1.alone = true := by decide +kernel
set_option maxRecDepth 65536 in
theorem w_named : about1.methodNamed? x = some theMethod := by decide +kernel
set_option maxRecDepth 65536 in
theorem w_hears : about1.hears theMethod below0 = true := by decide +kernel
set_option maxRecDepth 65536 in
theorem w_ripe : about1.ripe theMethod args0 below0 = true := by decide +kernel
theorem w_running : about1.status = .running := rfl
set_option maxRecDepth 65536 in
theorem w_room : about1.hasRoom e0.platform room_1 = true :=
  launch0.hasRoom_least _ room_1 (by decide +kernel) (by decide +kernel) (by decide +kernel) (by decide +kernel) (by decide +kernel) (by decide +kernel)
theorem allAtoms_all (ts : List Jvm.Cond) (a : Array Jvm.Value) (st : Jvm.State) : (allAtoms ts).before a st = ts.all (fun c => c.before a st) := by
  induction ts with
  | nil => rfl
  | cons c t ih =>
    show (Jvm.Cond.and c (allAtoms t)).before a st = _
    rw [Jvm.Cond.before_and, ih, List.all_cons]
def words1 : List Jvm.Cond := Jvm.Cond.code x code maxLocals ret :: tables_1
/-- a 'code' word, met by the world's own term for the bytes: nothing is compared byte by byte -/
theorem code_word {y : MethodName} {bytes : ByteArray} {mx : Nat} {rt : Option FieldType} {a : Array Value} {s : State} {m : MethodId} {meth : Method} {c : Code} (h1 : s.methodNamed? y = some m) (h2 : s.vm.method? m = some meth) (h3 : meth.code = some c) (h4 : c.code = bytes)
    (h5 : (c.maxLocals == mx && c.exceptionTable.isEmpty && decide (c.maxStack ≤ mostOperands) && decide (meth.sig.returnType = rt) && !meth.locks && decide (parseMethodDescriptor y.desc = some meth.sig)) = true) : (Jvm.Cond.code y bytes mx rt).before a s = true := by
  simp only [Bool.and_eq_true, beq_iff_eq, Bool.not_eq_true', decide_eq_true_eq] at h5
  obtain ⟨⟨⟨⟨⟨g1, g2⟩, g3⟩, g4⟩, g5⟩, g6⟩ := h5
  simp [Cond.before, Cond.holds, Cond.value, h1, h2, h3, h4, g1, g2, g3, g4, g5, g6]
def isCode : Jvm.Cond → Bool
  | .code _ _ _ _ => true
  | _ => false
theorem all_split {L : List Jvm.Cond} {P : Jvm.Cond → Bool} (h1 : L.all (fun c => isCode c || P c) = true) (h2 : ∀ c ∈ L.filter isCode, P c = true) : L.all P = true := by
  refine List.all_eq_true.mpr fun c hc => ?_
  have h := List.all_eq_true.mp h1 c hc
  rcases Bool.eq_false_or_eq_true (isCode c) with hi | hi
  · exact h2 c (List.mem_filter.mpr ⟨hc, hi⟩)
  · simpa [hi] using h
set_option maxRecDepth 65536 in
theorem w_c0 : (Jvm.Cond.code x code maxLocals ret).before args0 about1 = true := code_word (m := ⟨1, 2⟩) (meth := k1m2) (c := k1c2) (by decide +kernel) rfl rfl rfl (by decide +kernel)
set_option maxRecDepth 65536 in
theorem w_c1 : (Jvm.Cond.code ({ cls := "com/example/partybook/partybook/io/XmlParser", name := "isCharacter", desc := "(I)Z" } : Jvm.MethodName) prog_40_method_51_code (1 : Nat) (Option.some Jvm.ClassFile.FieldType.boolean)).before args0 about1 = true := code_word (m := ⟨2, 0⟩) (meth := k2m0) (c := k2c0) (by decide +kernel) rfl rfl rfl (by decide +kernel)
set_option maxRecDepth 65536 in
theorem w_c2 : (Jvm.Cond.code ({ cls := "com/example/partybook/partybook/io/XmlParserIsCharacterPinLaw", name := "allowed", desc := "(I)Z" } : Jvm.MethodName) method_2_code (1 : Nat) (Option.some Jvm.ClassFile.FieldType.boolean)).before args0 about1 = true := code_word (m := ⟨1, 1⟩) (meth := k1m1) (c := k1c1) (by decide +kernel) rfl rfl rfl (by decide +kernel)
def codes1 : List Jvm.Cond := [Jvm.Cond.code x code maxLocals ret, Jvm.Cond.code ({ cls := "com/example/partybook/partybook/io/XmlParser", name := "isCharacter", desc := "(I)Z" } : Jvm.MethodName) prog_40_method_51_code (1 : Nat) (Option.some Jvm.ClassFile.FieldType.boolean), Jvm.Cond.code ({ cls := "com/example/partybook/partybook/io/XmlParserIsCharacterPinLaw", name := "allowed", desc := "(I)Z" } : Jvm.MethodName) method_2_code (1 : Nat) (Option.some Jvm.ClassFile.FieldType.boolean)]
set_option maxRecDepth 65536 in
theorem codes_eq : words1.filter isCode = codes1 := rfl
theorem w_codes : ∀ c ∈ words1.filter isCode, c.before args0 about1 = true := by
  rw [codes_eq]
  intro c hc
  simp only [codes1, List.mem_cons, List.not_mem_nil, or_false] at hc
  rcases hc with rfl | rfl | rfl
  · exact w_c0
  · exact w_c1
  · exact w_c2
set_option maxRecDepth 65536 in
theorem w_t1 : (words1.take 24).all (fun c => isCode c || c.before args0 about1) = true := by decide +kernel
set_option maxRecDepth 65536 in
theorem w_t2 : (words1.drop 24).all (fun c => isCode c || c.before args0 about1) = true := by decide +kernel
theorem w_tables : (allAtoms (Jvm.Cond.code x code maxLocals ret :: tables_1)).before args0 about1 = true := by
  rw [allAtoms_all]
  show words1.all (fun c => c.before args0 about1) = true
  refine all_split ?_ w_codes
  rw [← List.take_append_drop 24 words1, List.all_append, w_t1, w_t2]
  rfl
set_option maxRecDepth 65536 in
theorem w_case : (Jvm.Cond.and given_1 narrow_1).before args0 about1 = true := by decide +kernel
theorem w_applies : (headSpec (Jvm.Cond.code x code maxLocals ret :: tables_1) room_1).applies x e0.platform about1 = true :=
  (Spec.applies_iff w_frames).mpr ⟨w_running, w_runnable, w_alone, w_named, w_hears, w_ripe, w_room, w_tables⟩
theorem atStart : AtStart classFile x code maxLocals ret World_1 tables_1 room_1 Calls_1 rest_1 Pre_1 launch0 p0 e0 about1 theMethod args0 below0 :=
  ⟨lists_1, trivial, launch0.admits_env _ _ _, launch0.least_env, fairChoices_fair.cas, fairChoices_fair.clock, w_frames, w_args, w_heap, w_applies, trivial, trivial, w_case⟩
end start1
theorem witness_1 : WitnessClaimed_1 := ⟨start1.p0, start1.e0, start1.about1, start1.theMethod, start1.args0, start1.below0, start1.atStart⟩
end Jvm.Pilot.@@N@@
