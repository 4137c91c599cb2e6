import JvmDerived
import JvmDerived.Pilot.@@N@@Statement
import JvmDerived.Pilot.@@N@@Code
set_option linter.unusedVariables false
set_option linter.unusedSimpArgs false
namespace Jvm.Pilot.@@N@@
open Jvm Jvm.ClassFile Sem Op Lib Jvm.Free Jvm.Stand Jvm.LawKit Jvm.RoadKit Bundle Jvm.Pilot.@@N@@.Jvm.D
theorem own_d1_0 : decode prog_26_method_1_code 0 = .ok (.aload_n 0, 1) := by decide +kernel
theorem own_d1_1 : decode prog_26_method_1_code 1 = .ok (.invokespecial 1, 3) := by decide +kernel
theorem own_d1_4 : decode prog_26_method_1_code 4 = .ok (.aload_n 0, 1) := by decide +kernel
theorem own_d1_5 : decode prog_26_method_1_code 5 = .ok (.iconst (-1), 1) := by decide +kernel
theorem own_d1_6 : decode prog_26_method_1_code 6 = .ok (.putfield 9, 3) := by decide +kernel
theorem own_d1_9 : decode prog_26_method_1_code 9 = .ok (.aload_n 0, 1) := by decide +kernel
theorem own_d1_10 : decode prog_26_method_1_code 10 = .ok (.bipush 16, 2) := by decide +kernel
theorem own_d1_12 : decode prog_26_method_1_code 12 = .ok (.newarray .int, 2) := by decide +kernel
theorem own_d1_14 : decode prog_26_method_1_code 14 = .ok (.putfield 13, 3) := by decide +kernel
theorem own_d1_17 : decode prog_26_method_1_code 17 = .ok (.aload_n 0, 1) := by decide +kernel
theorem own_d1_18 : decode prog_26_method_1_code 18 = .ok (.bipush 16, 2) := by decide +kernel
theorem own_d1_20 : decode prog_26_method_1_code 20 = .ok (.newarray .int, 2) := by decide +kernel
theorem own_d1_22 : decode prog_26_method_1_code 22 = .ok (.putfield 17, 3) := by decide +kernel
theorem own_d1_25 : decode prog_26_method_1_code 25 = .ok (.aload_n 0, 1) := by decide +kernel
theorem own_d1_26 : decode prog_26_method_1_code 26 = .ok (.bipush 16, 2) := by decide +kernel
theorem own_d1_28 : decode prog_26_method_1_code 28 = .ok (.anewarray 20, 3) := by decide +kernel
theorem own_d1_31 : decode prog_26_method_1_code 31 = .ok (.putfield 22, 3) := by decide +kernel
theorem own_d1_34 : decode prog_26_method_1_code 34 = .ok (.aload_n 0, 1) := by decide +kernel
theorem own_d1_35 : decode prog_26_method_1_code 35 = .ok (.bipush 16, 2) := by decide +kernel
theorem own_d1_37 : decode prog_26_method_1_code 37 = .ok (.newarray .int, 2) := by decide +kernel
theorem own_d1_39 : decode prog_26_method_1_code 39 = .ok (.putfield 26, 3) := by decide +kernel
theorem own_d1_42 : decode prog_26_method_1_code 42 = .ok (.aload_n 0, 1) := by decide +kernel
theorem own_d1_43 : decode prog_26_method_1_code 43 = .ok (.bipush 64, 2) := by decide +kernel
theorem own_d1_45 : decode prog_26_method_1_code 45 = .ok (.newarray .byte, 2) := by decide +kernel
theorem own_d1_47 : decode prog_26_method_1_code 47 = .ok (.putfield 29, 3) := by decide +kernel
theorem own_d1_50 : decode prog_26_method_1_code 50 = .ok (.aload_n 0, 1) := by decide +kernel
theorem own_d1_51 : decode prog_26_method_1_code 51 = .ok (.bipush 64, 2) := by decide +kernel
theorem own_d1_53 : decode prog_26_method_1_code 53 = .ok (.newarray .long, 2) := by decide +kernel
theorem own_d1_55 : decode prog_26_method_1_code 55 = .ok (.putfield 33, 3) := by decide +kernel
theorem own_d1_58 : decode prog_26_method_1_code 58 = .ok (.return_, 1) := by decide +kernel
theorem own_pn0 : plainName "com/example/path_acl_check/pathaclcheck/RecordTable" = true := by first | (simp [plainName, overriddenIn]; done) | decide +kernel
theorem own_ef_rm1 (m : MethodId) (a1 : Addr) : entryFrame m #[(.ref a1)] 1 = mkF m 0 #[.val (.ref a1)] [] := by first | (simp [entryFrame, mkF, argsToLocals, Value.category]; done) | rfl
def Q1 (Z : State) (a1 : Addr) (h0 : Heap) (n0 : Nat) (v : Option Value) (h : Heap) (L : List Loc) : Prop := ∃ b1 : Addr, ∃ b2 : Addr, ∃ k1 : ClassId, ∃ k2 : ClassId, v = none ∧ Fr n0 L ∧ Keep h0 h [a1] ∧ h0.size ≤ b1 ∧ h0.size ≤ b2 ∧ Exa Z h a1 "com/example/path_acl_check/pathaclcheck/RecordTable" ∧ Fld Z h a1 "com/example/path_acl_check/pathaclcheck/RecordTable" "protections" "[Lcom/example/path_acl_check/pathaclcheck/Protection;" (.ref b1) ∧ Fld Z h a1 "com/example/path_acl_check/pathaclcheck/RecordTable" "protectionNumbers" "[I" (.ref b2) ∧ Arv Z h b1 k1 (.object "com/example/path_acl_check/pathaclcheck/Protection") (16 : Int32) [] .null ∧ Arv Z h b2 k2 .int (16 : Int32) [] (.int (0 : Int32))
set_option maxRecDepth 65536 in
set_option maxHeartbeats 40000000 in
theorem rm1 (l : Launch) (Z : State) (a0 : Array Value) (hw : ∀ d ∈ tables_1, d.before a0 Z = true) (ws : List Jvm.Cond) (a1 : Addr) (h0 : Heap) (n0 : Nat) (Z0 : n0 ≤ h0.size) (E_a1 : Exa Z h0 a1 "com/example/path_acl_check/pathaclcheck/RecordTable") (F_a1_root : Fld Z h0 a1 "com/example/path_acl_check/pathaclcheck/RecordTable" "root" "I" (.int (0 : Int32))) (F_a1_parents : Fld Z h0 a1 "com/example/path_acl_check/pathaclcheck/RecordTable" "parents" "[I" .null) (F_a1_protectionNumbers : Fld Z h0 a1 "com/example/path_acl_check/pathaclcheck/RecordTable" "protectionNumbers" "[I" .null) (F_a1_protections : Fld Z h0 a1 "com/example/path_acl_check/pathaclcheck/RecordTable" "protections" "[Lcom/example/path_acl_check/pathaclcheck/Protection;" .null) (F_a1_partEnds : Fld Z h0 a1 "com/example/path_acl_check/pathaclcheck/RecordTable" "partEnds" "[I" .null) (F_a1_parts : Fld Z h0 a1 "com/example/path_acl_check/pathaclcheck/RecordTable" "parts" "[B" .null) (F_a1_slots : Fld Z h0 a1 "com/example/path_acl_check/pathaclcheck/RecordTable" "slots" "[J" .null) (gg_a1 : n0 ≤ a1) :
    MetFree l (⟨"com/example/path_acl_check/pathaclcheck/RecordTable", "<init>", "()V"⟩ : MethodName) (head1 (Jvm.Cond.code (⟨"com/example/path_acl_check/pathaclcheck/RecordTable", "<init>", "()V"⟩ : MethodName) prog_26_method_1_code 1 none :: ws) ({ frames := 1, cells := 6, slots := 192, locals := 12 } : Room)) (fun a U => a = #[(.ref a1)] ∧ Z.Warmed39 U.vm ∧ U.heap = h0) (fun _ _ _ _ _ => True) (fun _ U o U' => ∃ v L, o = .returned v ∧ Q1 Z a1 h0 n0 v U'.heap L ∧ FrameEnd U o U' L ({ frames := 1, cells := 6, slots := 192, locals := 12 } : Room).cells ({ frames := 1, cells := 6, slots := 192, locals := 12 } : Room).slots) := by
  refine MetFree.of_bodySF (plainFor_of_name own_pn0) hisR ?_
  intro p e s m args below meth c s₁ Bd hml0 hP hK
  obtain ⟨rfl, hZ, hh⟩ := hP
  have hx := Bd.exec
  have hby := Bd.bytes
  have hml : c.maxLocals = 1 := hml0
  have hown : s.vm.findClass "com/example/path_acl_check/pathaclcheck/RecordTable" = some m.cls := findClass_of_methodNamed Bd.named
  have hnm := (name_of_methodNamed Bd.named Bd.method).1
  have X0 : Stand p l e ({ frames := 1, cells := 6, slots := 192, locals := 12 } : Room) s m #[(.ref a1)] below meth c s₁ [] 0 0 := Stand.of_body Bd
  have e0 : s₁.heap = h0 := by rw [← hh, Bd.state]; rfl
  have N0 := Fr.nil n0
  have K0 : Keep h0 h0 [a1] := Keep.refl h0 _
  have pre0 : ∀ t, Steps p.tables e below (s₁.setTop (mkF m 0 #[.val (.ref a1)] [])) t → Steps p.tables e below (s₁.setTop (entryFrame m #[(.ref a1)] 1)) t := fun t k => castTop (own_ef_rm1 m a1) k
  obtain ⟨T1, X1, e1, st1⟩ := initO X0 hx hZ hown (hw _ (List.mem_of_getElem? (i := 6) rfl)) (hw _ (List.mem_of_getElem? (i := 7) rfl)) (hw _ (List.mem_of_getElem? (i := 8) rfl)) e0 (g := (mkF m 1 #[.val (.ref a1)] [(.ref a1)])) rfl (by rw [hml]; rfl) rfl (hb hby own_d1_1) (by decide) (W := 0) (by show 2 * 0 + _ ≤ _; exact Nat.le_of_eq rfl) (by decide)
  obtain ⟨T2, h2, X2, e2, W2, st2⟩ := putF X1 hx hZ hown (host := "") (Or.inl (hw _ (List.mem_of_getElem? (i := 9) rfl))) Via.refl e1 F_a1_root E_a1 (Or.inl (hw _ (List.mem_of_getElem? (i := 10) rfl))) (hw _ (List.mem_of_getElem? (i := 1) rfl)) (ty := .int) (by decide) rfl rfl (g := (mkF m 6 #[.val (.ref a1)] [(.int (-1 : Int32)), (.ref a1)])) rfl rfl (hb hby own_d1_6)
  have Fw2 := F_a1_root.same W2
  have K2 := K0.wr W2 (Or.inl (List.mem_of_getElem? (i := 0) rfl))
  have N2 := Fr.snoc X2 N0 gg_a1
  obtain ⟨T3, h3, k3, X3, e3, E3, A3, st3⟩ := newP X2 hx hZ (hw _ (List.mem_of_getElem? (i := 11) rfl)) e2 (g := (mkF m 12 #[.val (.ref a1)] [(.int (16 : Int32)), (.ref a1)])) rfl (hb hby own_d1_12) rfl (by decide) (cap := 16) (by decide) (by decide) (by decide) (by decide)
  obtain ⟨b3, g3⟩ : ∃ z, z = h2.size := ⟨_, rfl⟩
  rw [← g3] at A3 st3
  have Q4 := (E_a1.wr W2)
  have ne_a1_b3 : a1 ≠ b3 := Nat.ne_of_lt (Nat.lt_of_lt_of_le Q4.lt (Nat.le_of_eq g3.symm))
  have gg_b3 : n0 ≤ b3 := Nat.le_trans (Nat.le_trans Z0 K2.1) (Nat.le_of_eq g3.symm)
  have sz_b3 : h0.size ≤ b3 := Nat.le_trans K2.1 (Nat.le_of_eq g3.symm)
  have K3 := K2.ext E3
  have V3 : Arv Z h3 b3 k3 .int (16 : Int32) [] (.int (0 : Int32)) := Arv.new A3 (by decide)
  have Q5 := (Q4.ext E3)
  have Q6 := ((F_a1_parents.other W2 (Or.inr (slot_ne (Or.inl (hw _ (List.mem_of_getElem? (i := 13) rfl))) (Or.inl (hw _ (List.mem_of_getElem? (i := 10) rfl))) (by decide) (t := (.array .int)) (t' := .int) (by decide) (by decide)))).ext E3)
  obtain ⟨T7, h7, X7, e7, W7, st7⟩ := putF X3 hx hZ hown (host := "") (Or.inl (hw _ (List.mem_of_getElem? (i := 12) rfl))) Via.refl e3 Q6 Q5 (Or.inl (hw _ (List.mem_of_getElem? (i := 13) rfl))) (hw _ (List.mem_of_getElem? (i := 1) rfl)) (ty := (.array .int)) (by decide) rfl rfl (g := (mkF m 14 #[.val (.ref a1)] [(.ref b3), (.ref a1)])) rfl rfl (hb hby own_d1_14)
  have Fw7 := Q6.same W7
  have K7 := K3.wr W7 (Or.inl (List.mem_of_getElem? (i := 0) rfl))
  have N7 := Fr.snoc X7 N2 gg_a1
  obtain ⟨T8, h8, k8, X8, e8, E8, A8, st8⟩ := newP X7 hx hZ (hw _ (List.mem_of_getElem? (i := 11) rfl)) e7 (g := (mkF m 20 #[.val (.ref a1)] [(.int (16 : Int32)), (.ref a1)])) rfl (hb hby own_d1_20) rfl (by decide) (cap := 16) (by decide) (by decide) (by decide) (by decide)
  obtain ⟨b8, g8⟩ : ∃ z, z = h7.size := ⟨_, rfl⟩
  rw [← g8] at A8 st8
  have Q9 := (Q5.wr W7)
  have ne_a1_b8 : a1 ≠ b8 := Nat.ne_of_lt (Nat.lt_of_lt_of_le Q9.lt (Nat.le_of_eq g8.symm))
  have Q10 := (V3.other W7 (Ne.symm ne_a1_b3))
  have ne_b3_b8 : b3 ≠ b8 := Nat.ne_of_lt (Nat.lt_of_lt_of_le Q10.lt (Nat.le_of_eq g8.symm))
  have gg_b8 : n0 ≤ b8 := Nat.le_trans (Nat.le_trans Z0 K7.1) (Nat.le_of_eq g8.symm)
  have sz_b8 : h0.size ≤ b8 := Nat.le_trans K7.1 (Nat.le_of_eq g8.symm)
  have K8 := K7.ext E8
  have V8 : Arv Z h8 b8 k8 .int (16 : Int32) [] (.int (0 : Int32)) := Arv.new A8 (by decide)
  have Q11 := (Q9.ext E8)
  have Q12 := ((((F_a1_protectionNumbers.other W2 (Or.inr (slot_ne (Or.inl (hw _ (List.mem_of_getElem? (i := 15) rfl))) (Or.inl (hw _ (List.mem_of_getElem? (i := 10) rfl))) (by decide) (t := (.array .int)) (t' := .int) (by decide) (by decide)))).ext E3).other W7 (Or.inr (slot_ne (Or.inl (hw _ (List.mem_of_getElem? (i := 15) rfl))) (Or.inl (hw _ (List.mem_of_getElem? (i := 13) rfl))) (by decide) (t := (.array .int)) (t' := (.array .int)) (by decide) (by decide)))).ext E8)
  obtain ⟨T13, h13, X13, e13, W13, st13⟩ := putF X8 hx hZ hown (host := "") (Or.inl (hw _ (List.mem_of_getElem? (i := 14) rfl))) Via.refl e8 Q12 Q11 (Or.inl (hw _ (List.mem_of_getElem? (i := 15) rfl))) (hw _ (List.mem_of_getElem? (i := 1) rfl)) (ty := (.array .int)) (by decide) rfl rfl (g := (mkF m 22 #[.val (.ref a1)] [(.ref b8), (.ref a1)])) rfl rfl (hb hby own_d1_22)
  have Fw13 := Q12.same W13
  have K13 := K8.wr W13 (Or.inl (List.mem_of_getElem? (i := 0) rfl))
  have N13 := Fr.snoc X13 N7 gg_a1
  obtain ⟨T14, h14, k14, X14, e14, E14, A14, O14, st14⟩ := newR X13 hx hZ hown (hw _ (List.mem_of_getElem? (i := 16) rfl)) (hw _ (List.mem_of_getElem? (i := 17) rfl)) e13 (g := (mkF m 28 #[.val (.ref a1)] [(.int (16 : Int32)), (.ref a1)])) rfl (hb hby own_d1_28) rfl (by decide) (cap := 16) (by decide) (by decide) (by decide) (by decide)
  obtain ⟨b14, g14⟩ : ∃ z, z = h13.size := ⟨_, rfl⟩
  rw [← g14] at A14 st14
  have Q15 := (Q11.wr W13)
  have ne_a1_b14 : a1 ≠ b14 := Nat.ne_of_lt (Nat.lt_of_lt_of_le Q15.lt (Nat.le_of_eq g14.symm))
  have Q16 := ((Q10.ext E8).other W13 (Ne.symm ne_a1_b3))
  have ne_b3_b14 : b3 ≠ b14 := Nat.ne_of_lt (Nat.lt_of_lt_of_le Q16.lt (Nat.le_of_eq g14.symm))
  have Q17 := (V8.other W13 (Ne.symm ne_a1_b8))
  have ne_b8_b14 : b8 ≠ b14 := Nat.ne_of_lt (Nat.lt_of_lt_of_le Q17.lt (Nat.le_of_eq g14.symm))
  have gg_b14 : n0 ≤ b14 := Nat.le_trans (Nat.le_trans Z0 K13.1) (Nat.le_of_eq g14.symm)
  have sz_b14 : h0.size ≤ b14 := Nat.le_trans K13.1 (Nat.le_of_eq g14.symm)
  have K14 := K13.ext E14
  have V14 : Arv Z h14 b14 k14 (.object "com/example/path_acl_check/pathaclcheck/Protection") (16 : Int32) [] .null := Arv.new A14 (by decide)
  have Q18 := (Q15.ext E14)
  have Q19 := ((((((F_a1_protections.other W2 (Or.inr (slot_ne (Or.inl (hw _ (List.mem_of_getElem? (i := 19) rfl))) (Or.inl (hw _ (List.mem_of_getElem? (i := 10) rfl))) (by decide) (t := (.array (.object "com/example/path_acl_check/pathaclcheck/Protection"))) (t' := .int) (by decide) (by decide)))).ext E3).other W7 (Or.inr (slot_ne (Or.inl (hw _ (List.mem_of_getElem? (i := 19) rfl))) (Or.inl (hw _ (List.mem_of_getElem? (i := 13) rfl))) (by decide) (t := (.array (.object "com/example/path_acl_check/pathaclcheck/Protection"))) (t' := (.array .int)) (by decide) (by decide)))).ext E8).other W13 (Or.inr (slot_ne (Or.inl (hw _ (List.mem_of_getElem? (i := 19) rfl))) (Or.inl (hw _ (List.mem_of_getElem? (i := 15) rfl))) (by decide) (t := (.array (.object "com/example/path_acl_check/pathaclcheck/Protection"))) (t' := (.array .int)) (by decide) (by decide)))).ext E14)
  obtain ⟨T20, h20, X20, e20, W20, st20⟩ := putF X14 hx hZ hown (host := "") (Or.inl (hw _ (List.mem_of_getElem? (i := 18) rfl))) Via.refl e14 Q19 Q18 (Or.inl (hw _ (List.mem_of_getElem? (i := 19) rfl))) (hw _ (List.mem_of_getElem? (i := 1) rfl)) (ty := (.array (.object "com/example/path_acl_check/pathaclcheck/Protection"))) (by decide) rfl rfl (g := (mkF m 31 #[.val (.ref a1)] [(.ref b14), (.ref a1)])) rfl rfl (hb hby own_d1_31)
  have Fw20 := Q19.same W20
  have K20 := K14.wr W20 (Or.inl (List.mem_of_getElem? (i := 0) rfl))
  have N20 := Fr.snoc X20 N13 gg_a1
  obtain ⟨T21, h21, k21, X21, e21, E21, A21, st21⟩ := newP X20 hx hZ (hw _ (List.mem_of_getElem? (i := 11) rfl)) e20 (g := (mkF m 37 #[.val (.ref a1)] [(.int (16 : Int32)), (.ref a1)])) rfl (hb hby own_d1_37) rfl (by decide) (cap := 16) (by decide) (by decide) (by decide) (by decide)
  obtain ⟨b21, g21⟩ : ∃ z, z = h20.size := ⟨_, rfl⟩
  rw [← g21] at A21 st21
  have Q22 := (Q18.wr W20)
  have ne_a1_b21 : a1 ≠ b21 := Nat.ne_of_lt (Nat.lt_of_lt_of_le Q22.lt (Nat.le_of_eq g21.symm))
  have Q23 := ((Q16.ext E14).other W20 (Ne.symm ne_a1_b3))
  have ne_b3_b21 : b3 ≠ b21 := Nat.ne_of_lt (Nat.lt_of_lt_of_le Q23.lt (Nat.le_of_eq g21.symm))
  have Q24 := ((Q17.ext E14).other W20 (Ne.symm ne_a1_b8))
  have ne_b8_b21 : b8 ≠ b21 := Nat.ne_of_lt (Nat.lt_of_lt_of_le Q24.lt (Nat.le_of_eq g21.symm))
  have Q25 := (V14.other W20 (Ne.symm ne_a1_b14))
  have ne_b14_b21 : b14 ≠ b21 := Nat.ne_of_lt (Nat.lt_of_lt_of_le Q25.lt (Nat.le_of_eq g21.symm))
  have gg_b21 : n0 ≤ b21 := Nat.le_trans (Nat.le_trans Z0 K20.1) (Nat.le_of_eq g21.symm)
  have sz_b21 : h0.size ≤ b21 := Nat.le_trans K20.1 (Nat.le_of_eq g21.symm)
  have K21 := K20.ext E21
  have V21 : Arv Z h21 b21 k21 .int (16 : Int32) [] (.int (0 : Int32)) := Arv.new A21 (by decide)
  have Q26 := (Q22.ext E21)
  have Q27 := ((((((((F_a1_partEnds.other W2 (Or.inr (slot_ne (Or.inl (hw _ (List.mem_of_getElem? (i := 21) rfl))) (Or.inl (hw _ (List.mem_of_getElem? (i := 10) rfl))) (by decide) (t := (.array .int)) (t' := .int) (by decide) (by decide)))).ext E3).other W7 (Or.inr (slot_ne (Or.inl (hw _ (List.mem_of_getElem? (i := 21) rfl))) (Or.inl (hw _ (List.mem_of_getElem? (i := 13) rfl))) (by decide) (t := (.array .int)) (t' := (.array .int)) (by decide) (by decide)))).ext E8).other W13 (Or.inr (slot_ne (Or.inl (hw _ (List.mem_of_getElem? (i := 21) rfl))) (Or.inl (hw _ (List.mem_of_getElem? (i := 15) rfl))) (by decide) (t := (.array .int)) (t' := (.array .int)) (by decide) (by decide)))).ext E14).other W20 (Or.inr (slot_ne (Or.inl (hw _ (List.mem_of_getElem? (i := 21) rfl))) (Or.inl (hw _ (List.mem_of_getElem? (i := 19) rfl))) (by decide) (t := (.array .int)) (t' := (.array (.object "com/example/path_acl_check/pathaclcheck/Protection"))) (by decide) (by decide)))).ext E21)
  obtain ⟨T28, h28, X28, e28, W28, st28⟩ := putF X21 hx hZ hown (host := "") (Or.inl (hw _ (List.mem_of_getElem? (i := 20) rfl))) Via.refl e21 Q27 Q26 (Or.inl (hw _ (List.mem_of_getElem? (i := 21) rfl))) (hw _ (List.mem_of_getElem? (i := 1) rfl)) (ty := (.array .int)) (by decide) rfl rfl (g := (mkF m 39 #[.val (.ref a1)] [(.ref b21), (.ref a1)])) rfl rfl (hb hby own_d1_39)
  have Fw28 := Q27.same W28
  have K28 := K21.wr W28 (Or.inl (List.mem_of_getElem? (i := 0) rfl))
  have N28 := Fr.snoc X28 N20 gg_a1
  obtain ⟨T29, h29, k29, X29, e29, E29, A29, st29⟩ := newP X28 hx hZ (hw _ (List.mem_of_getElem? (i := 22) rfl)) e28 (g := (mkF m 45 #[.val (.ref a1)] [(.int (64 : Int32)), (.ref a1)])) rfl (hb hby own_d1_45) rfl (by decide) (cap := 64) (by decide) (by decide) (by decide) (by decide)
  obtain ⟨b29, g29⟩ : ∃ z, z = h28.size := ⟨_, rfl⟩
  rw [← g29] at A29 st29
  have Q30 := (Q26.wr W28)
  have ne_a1_b29 : a1 ≠ b29 := Nat.ne_of_lt (Nat.lt_of_lt_of_le Q30.lt (Nat.le_of_eq g29.symm))
  have Q31 := ((Q23.ext E21).other W28 (Ne.symm ne_a1_b3))
  have ne_b3_b29 : b3 ≠ b29 := Nat.ne_of_lt (Nat.lt_of_lt_of_le Q31.lt (Nat.le_of_eq g29.symm))
  have Q32 := ((Q24.ext E21).other W28 (Ne.symm ne_a1_b8))
  have ne_b8_b29 : b8 ≠ b29 := Nat.ne_of_lt (Nat.lt_of_lt_of_le Q32.lt (Nat.le_of_eq g29.symm))
  have Q33 := ((Q25.ext E21).other W28 (Ne.symm ne_a1_b14))
  have ne_b14_b29 : b14 ≠ b29 := Nat.ne_of_lt (Nat.lt_of_lt_of_le Q33.lt (Nat.le_of_eq g29.symm))
  have Q34 := (V21.other W28 (Ne.symm ne_a1_b21))
  have ne_b21_b29 : b21 ≠ b29 := Nat.ne_of_lt (Nat.lt_of_lt_of_le Q34.lt (Nat.le_of_eq g29.symm))
  have gg_b29 : n0 ≤ b29 := Nat.le_trans (Nat.le_trans Z0 K28.1) (Nat.le_of_eq g29.symm)
  have sz_b29 : h0.size ≤ b29 := Nat.le_trans K28.1 (Nat.le_of_eq g29.symm)
  have K29 := K28.ext E29
  have V29 : Arv Z h29 b29 k29 .byte (64 : Int32) [] (.int (0 : Int32)) := Arv.new A29 (by decide)
  have Q35 := (Q30.ext E29)
  have Q36 := ((((((((((F_a1_parts.other W2 (Or.inr (slot_ne (Or.inl (hw _ (List.mem_of_getElem? (i := 24) rfl))) (Or.inl (hw _ (List.mem_of_getElem? (i := 10) rfl))) (by decide) (t := (.array .byte)) (t' := .int) (by decide) (by decide)))).ext E3).other W7 (Or.inr (slot_ne (Or.inl (hw _ (List.mem_of_getElem? (i := 24) rfl))) (Or.inl (hw _ (List.mem_of_getElem? (i := 13) rfl))) (by decide) (t := (.array .byte)) (t' := (.array .int)) (by decide) (by decide)))).ext E8).other W13 (Or.inr (slot_ne (Or.inl (hw _ (List.mem_of_getElem? (i := 24) rfl))) (Or.inl (hw _ (List.mem_of_getElem? (i := 15) rfl))) (by decide) (t := (.array .byte)) (t' := (.array .int)) (by decide) (by decide)))).ext E14).other W20 (Or.inr (slot_ne (Or.inl (hw _ (List.mem_of_getElem? (i := 24) rfl))) (Or.inl (hw _ (List.mem_of_getElem? (i := 19) rfl))) (by decide) (t := (.array .byte)) (t' := (.array (.object "com/example/path_acl_check/pathaclcheck/Protection"))) (by decide) (by decide)))).ext E21).other W28 (Or.inr (slot_ne (Or.inl (hw _ (List.mem_of_getElem? (i := 24) rfl))) (Or.inl (hw _ (List.mem_of_getElem? (i := 21) rfl))) (by decide) (t := (.array .byte)) (t' := (.array .int)) (by decide) (by decide)))).ext E29)
  obtain ⟨T37, h37, X37, e37, W37, st37⟩ := putF X29 hx hZ hown (host := "") (Or.inl (hw _ (List.mem_of_getElem? (i := 23) rfl))) Via.refl e29 Q36 Q35 (Or.inl (hw _ (List.mem_of_getElem? (i := 24) rfl))) (hw _ (List.mem_of_getElem? (i := 1) rfl)) (ty := (.array .byte)) (by decide) rfl rfl (g := (mkF m 47 #[.val (.ref a1)] [(.ref b29), (.ref a1)])) rfl rfl (hb hby own_d1_47)
  have Fw37 := Q36.same W37
  have K37 := K29.wr W37 (Or.inl (List.mem_of_getElem? (i := 0) rfl))
  have N37 := Fr.snoc X37 N28 gg_a1
  obtain ⟨T38, h38, k38, X38, e38, E38, A38, st38⟩ := newP X37 hx hZ (hw _ (List.mem_of_getElem? (i := 25) rfl)) e37 (g := (mkF m 53 #[.val (.ref a1)] [(.int (64 : Int32)), (.ref a1)])) rfl (hb hby own_d1_53) rfl (by decide) (cap := 64) (by decide) (by decide) (by decide) (by decide)
  obtain ⟨b38, g38⟩ : ∃ z, z = h37.size := ⟨_, rfl⟩
  rw [← g38] at A38 st38
  have Q39 := (Q35.wr W37)
  have ne_a1_b38 : a1 ≠ b38 := Nat.ne_of_lt (Nat.lt_of_lt_of_le Q39.lt (Nat.le_of_eq g38.symm))
  have Q40 := ((Q31.ext E29).other W37 (Ne.symm ne_a1_b3))
  have ne_b3_b38 : b3 ≠ b38 := Nat.ne_of_lt (Nat.lt_of_lt_of_le Q40.lt (Nat.le_of_eq g38.symm))
  have Q41 := ((Q32.ext E29).other W37 (Ne.symm ne_a1_b8))
  have ne_b8_b38 : b8 ≠ b38 := Nat.ne_of_lt (Nat.lt_of_lt_of_le Q41.lt (Nat.le_of_eq g38.symm))
  have Q42 := ((Q33.ext E29).other W37 (Ne.symm ne_a1_b14))
  have ne_b14_b38 : b14 ≠ b38 := Nat.ne_of_lt (Nat.lt_of_lt_of_le Q42.lt (Nat.le_of_eq g38.symm))
  have Q43 := ((Q34.ext E29).other W37 (Ne.symm ne_a1_b21))
  have ne_b21_b38 : b21 ≠ b38 := Nat.ne_of_lt (Nat.lt_of_lt_of_le Q43.lt (Nat.le_of_eq g38.symm))
  have Q44 := (V29.other W37 (Ne.symm ne_a1_b29))
  have ne_b29_b38 : b29 ≠ b38 := Nat.ne_of_lt (Nat.lt_of_lt_of_le Q44.lt (Nat.le_of_eq g38.symm))
  have gg_b38 : n0 ≤ b38 := Nat.le_trans (Nat.le_trans Z0 K37.1) (Nat.le_of_eq g38.symm)
  have sz_b38 : h0.size ≤ b38 := Nat.le_trans K37.1 (Nat.le_of_eq g38.symm)
  have K38 := K37.ext E38
  have V38 : Arv Z h38 b38 k38 .long (64 : Int32) [] (.long (0 : Int64)) := Arv.new A38 (by decide)
  have Q45 := (Q39.ext E38)
  have Q46 := ((((((((((((F_a1_slots.other W2 (Or.inr (slot_ne (Or.inl (hw _ (List.mem_of_getElem? (i := 27) rfl))) (Or.inl (hw _ (List.mem_of_getElem? (i := 10) rfl))) (by decide) (t := (.array .long)) (t' := .int) (by decide) (by decide)))).ext E3).other W7 (Or.inr (slot_ne (Or.inl (hw _ (List.mem_of_getElem? (i := 27) rfl))) (Or.inl (hw _ (List.mem_of_getElem? (i := 13) rfl))) (by decide) (t := (.array .long)) (t' := (.array .int)) (by decide) (by decide)))).ext E8).other W13 (Or.inr (slot_ne (Or.inl (hw _ (List.mem_of_getElem? (i := 27) rfl))) (Or.inl (hw _ (List.mem_of_getElem? (i := 15) rfl))) (by decide) (t := (.array .long)) (t' := (.array .int)) (by decide) (by decide)))).ext E14).other W20 (Or.inr (slot_ne (Or.inl (hw _ (List.mem_of_getElem? (i := 27) rfl))) (Or.inl (hw _ (List.mem_of_getElem? (i := 19) rfl))) (by decide) (t := (.array .long)) (t' := (.array (.object "com/example/path_acl_check/pathaclcheck/Protection"))) (by decide) (by decide)))).ext E21).other W28 (Or.inr (slot_ne (Or.inl (hw _ (List.mem_of_getElem? (i := 27) rfl))) (Or.inl (hw _ (List.mem_of_getElem? (i := 21) rfl))) (by decide) (t := (.array .long)) (t' := (.array .int)) (by decide) (by decide)))).ext E29).other W37 (Or.inr (slot_ne (Or.inl (hw _ (List.mem_of_getElem? (i := 27) rfl))) (Or.inl (hw _ (List.mem_of_getElem? (i := 24) rfl))) (by decide) (t := (.array .long)) (t' := (.array .byte)) (by decide) (by decide)))).ext E38)
  obtain ⟨T47, h47, X47, e47, W47, st47⟩ := putF X38 hx hZ hown (host := "") (Or.inl (hw _ (List.mem_of_getElem? (i := 26) rfl))) Via.refl e38 Q46 Q45 (Or.inl (hw _ (List.mem_of_getElem? (i := 27) rfl))) (hw _ (List.mem_of_getElem? (i := 1) rfl)) (ty := (.array .long)) (by decide) rfl rfl (g := (mkF m 55 #[.val (.ref a1)] [(.ref b38), (.ref a1)])) rfl rfl (hb hby own_d1_55)
  have Fw47 := Q46.same W47
  have K47 := K38.wr W47 (Or.inl (List.mem_of_getElem? (i := 0) rfl))
  have N47 := Fr.snoc X47 N37 gg_a1
  have Q48 := (Q45.wr W47)
  have Q49 := ((((((Fw20.ext E21).other W28 (Or.inr (slot_ne (Or.inl (hw _ (List.mem_of_getElem? (i := 19) rfl))) (Or.inl (hw _ (List.mem_of_getElem? (i := 21) rfl))) (by decide) (t := (.array (.object "com/example/path_acl_check/pathaclcheck/Protection"))) (t' := (.array .int)) (by decide) (by decide)))).ext E29).other W37 (Or.inr (slot_ne (Or.inl (hw _ (List.mem_of_getElem? (i := 19) rfl))) (Or.inl (hw _ (List.mem_of_getElem? (i := 24) rfl))) (by decide) (t := (.array (.object "com/example/path_acl_check/pathaclcheck/Protection"))) (t' := (.array .byte)) (by decide) (by decide)))).ext E38).other W47 (Or.inr (slot_ne (Or.inl (hw _ (List.mem_of_getElem? (i := 19) rfl))) (Or.inl (hw _ (List.mem_of_getElem? (i := 27) rfl))) (by decide) (t := (.array (.object "com/example/path_acl_check/pathaclcheck/Protection"))) (t' := (.array .long)) (by decide) (by decide))))
  have Q50 := ((((((((Fw13.ext E14).other W20 (Or.inr (slot_ne (Or.inl (hw _ (List.mem_of_getElem? (i := 15) rfl))) (Or.inl (hw _ (List.mem_of_getElem? (i := 19) rfl))) (by decide) (t := (.array .int)) (t' := (.array (.object "com/example/path_acl_check/pathaclcheck/Protection"))) (by decide) (by decide)))).ext E21).other W28 (Or.inr (slot_ne (Or.inl (hw _ (List.mem_of_getElem? (i := 15) rfl))) (Or.inl (hw _ (List.mem_of_getElem? (i := 21) rfl))) (by decide) (t := (.array .int)) (t' := (.array .int)) (by decide) (by decide)))).ext E29).other W37 (Or.inr (slot_ne (Or.inl (hw _ (List.mem_of_getElem? (i := 15) rfl))) (Or.inl (hw _ (List.mem_of_getElem? (i := 24) rfl))) (by decide) (t := (.array .int)) (t' := (.array .byte)) (by decide) (by decide)))).ext E38).other W47 (Or.inr (slot_ne (Or.inl (hw _ (List.mem_of_getElem? (i := 15) rfl))) (Or.inl (hw _ (List.mem_of_getElem? (i := 27) rfl))) (by decide) (t := (.array .int)) (t' := (.array .long)) (by decide) (by decide))))
  have Q51 := ((Q42.ext E38).other W47 (Ne.symm ne_a1_b14))
  have Q52 := ((Q41.ext E38).other W47 (Ne.symm ne_a1_b8))
  obtain ⟨fs, hr, hrun, hended, hW, hsame⟩ := X47.leave (v := none) (fun _ => rfl)
  refine ⟨_, _, pre0 _ ?_, hrun, hended, _, _, rfl, ?_, ⟨_, rfl⟩, hW, hsame.mono (by decide) (by decide)⟩
  · show Steps p.tables e below (s₁.setTop (mkF m 0 #[.val (.ref a1)] [])) _
    refine XS.aloadN X0.here hx rfl (hb hby own_d1_0) rfl rfl ?_
    show Steps p.tables e below (s₁.setTop (mkF m 1 #[.val (.ref a1)] [(.ref a1)])) _
    refine st1 _ ?_
    show Steps p.tables e below (T1.setTop (mkF m 4 #[.val (.ref a1)] [])) _
    refine XS.aloadN X1.here hx rfl (hb hby own_d1_4) rfl rfl ?_
    show Steps p.tables e below (T1.setTop (mkF m 5 #[.val (.ref a1)] [(.ref a1)])) _
    refine XS.iconst X1.here hx rfl (hb hby own_d1_5) ?_
    show Steps p.tables e below (T1.setTop (mkF m 6 #[.val (.ref a1)] [(.int (-1 : Int32)), (.ref a1)])) _
    refine st2 _ ?_
    show Steps p.tables e below (T2.setTop (mkF m 9 #[.val (.ref a1)] [])) _
    refine XS.aloadN X2.here hx rfl (hb hby own_d1_9) rfl rfl ?_
    show Steps p.tables e below (T2.setTop (mkF m 10 #[.val (.ref a1)] [(.ref a1)])) _
    refine XS.bipush X2.here hx rfl (hb hby own_d1_10) ?_
    show Steps p.tables e below (T2.setTop (mkF m 12 #[.val (.ref a1)] [(.int (16 : Int32)), (.ref a1)])) _
    refine st3 _ ?_
    show Steps p.tables e below (T3.setTop (mkF m 14 #[.val (.ref a1)] [(.ref b3), (.ref a1)])) _
    refine st7 _ ?_
    show Steps p.tables e below (T7.setTop (mkF m 17 #[.val (.ref a1)] [])) _
    refine XS.aloadN X7.here hx rfl (hb hby own_d1_17) rfl rfl ?_
    show Steps p.tables e below (T7.setTop (mkF m 18 #[.val (.ref a1)] [(.ref a1)])) _
    refine XS.bipush X7.here hx rfl (hb hby own_d1_18) ?_
    show Steps p.tables e below (T7.setTop (mkF m 20 #[.val (.ref a1)] [(.int (16 : Int32)), (.ref a1)])) _
    refine st8 _ ?_
    show Steps p.tables e below (T8.setTop (mkF m 22 #[.val (.ref a1)] [(.ref b8), (.ref a1)])) _
    refine st13 _ ?_
    show Steps p.tables e below (T13.setTop (mkF m 25 #[.val (.ref a1)] [])) _
    refine XS.aloadN X13.here hx rfl (hb hby own_d1_25) rfl rfl ?_
    show Steps p.tables e below (T13.setTop (mkF m 26 #[.val (.ref a1)] [(.ref a1)])) _
    refine XS.bipush X13.here hx rfl (hb hby own_d1_26) ?_
    show Steps p.tables e below (T13.setTop (mkF m 28 #[.val (.ref a1)] [(.int (16 : Int32)), (.ref a1)])) _
    refine st14 _ ?_
    show Steps p.tables e below (T14.setTop (mkF m 31 #[.val (.ref a1)] [(.ref b14), (.ref a1)])) _
    refine st20 _ ?_
    show Steps p.tables e below (T20.setTop (mkF m 34 #[.val (.ref a1)] [])) _
    refine XS.aloadN X20.here hx rfl (hb hby own_d1_34) rfl rfl ?_
    show Steps p.tables e below (T20.setTop (mkF m 35 #[.val (.ref a1)] [(.ref a1)])) _
    refine XS.bipush X20.here hx rfl (hb hby own_d1_35) ?_
    show Steps p.tables e below (T20.setTop (mkF m 37 #[.val (.ref a1)] [(.int (16 : Int32)), (.ref a1)])) _
    refine st21 _ ?_
    show Steps p.tables e below (T21.setTop (mkF m 39 #[.val (.ref a1)] [(.ref b21), (.ref a1)])) _
    refine st28 _ ?_
    show Steps p.tables e below (T28.setTop (mkF m 42 #[.val (.ref a1)] [])) _
    refine XS.aloadN X28.here hx rfl (hb hby own_d1_42) rfl rfl ?_
    show Steps p.tables e below (T28.setTop (mkF m 43 #[.val (.ref a1)] [(.ref a1)])) _
    refine XS.bipush X28.here hx rfl (hb hby own_d1_43) ?_
    show Steps p.tables e below (T28.setTop (mkF m 45 #[.val (.ref a1)] [(.int (64 : Int32)), (.ref a1)])) _
    refine st29 _ ?_
    show Steps p.tables e below (T29.setTop (mkF m 47 #[.val (.ref a1)] [(.ref b29), (.ref a1)])) _
    refine st37 _ ?_
    show Steps p.tables e below (T37.setTop (mkF m 50 #[.val (.ref a1)] [])) _
    refine XS.aloadN X37.here hx rfl (hb hby own_d1_50) rfl rfl ?_
    show Steps p.tables e below (T37.setTop (mkF m 51 #[.val (.ref a1)] [(.ref a1)])) _
    refine XS.bipush X37.here hx rfl (hb hby own_d1_51) ?_
    show Steps p.tables e below (T37.setTop (mkF m 53 #[.val (.ref a1)] [(.int (64 : Int32)), (.ref a1)])) _
    refine st38 _ ?_
    show Steps p.tables e below (T38.setTop (mkF m 55 #[.val (.ref a1)] [(.ref b38), (.ref a1)])) _
    refine st47 _ ?_
    show Steps p.tables e below (T47.setTop (mkF m 58 #[.val (.ref a1)] [])) _
    exact X47.returnOut hx Bd.returns (hb hby own_d1_58) hr
  · show Q1 Z a1 h0 n0 _ T47.heap _
    rw [e47]
    exact ⟨b14, b8, k14, k8, rfl, N47, K47, sz_b14, sz_b8, Q48, Q49, Q50, Q51, Q52⟩
theorem own_d4_0 : decode prog_26_method_13_code 0 = .ok (.aload_n 0, 1) := by decide +kernel
theorem own_d4_1 : decode prog_26_method_13_code 1 = .ok (.getfield 22, 3) := by decide +kernel
theorem own_d4_4 : decode prog_26_method_13_code 4 = .ok (.aload_n 0, 1) := by decide +kernel
theorem own_d4_5 : decode prog_26_method_13_code 5 = .ok (.getfield 17, 3) := by decide +kernel
theorem own_d4_8 : decode prog_26_method_13_code 8 = .ok (.iload_n 1, 1) := by decide +kernel
theorem own_d4_9 : decode prog_26_method_13_code 9 = .ok (.iaload, 1) := by decide +kernel
theorem own_d4_10 : decode prog_26_method_13_code 10 = .ok (.aaload, 1) := by decide +kernel
theorem own_d4_11 : decode prog_26_method_13_code 11 = .ok (.areturn, 1) := by decide +kernel
theorem own_ef_rm3 (m : MethodId) (a1 : Addr) (p2 : Int32) : entryFrame m #[(.ref a1), (.int p2)] 2 = mkF m 0 #[.val (.ref a1), .val (.int p2)] [] := by first | (simp [entryFrame, mkF, argsToLocals, Value.category]; done) | rfl
def Q3 (Z : State) (a1 : Addr) (p2 : Int32) (w1 : Addr) (w2 : Addr) (k1 : ClassId) (k2 : ClassId) (h0 : Heap) (n0 : Nat) (v : Option Value) (h : Heap) (L : List Loc) : Prop := v = some .null ∧ Fr n0 L ∧ h = h0
set_option maxRecDepth 65536 in
set_option maxHeartbeats 40000000 in
theorem rm3 (l : Launch) (Z : State) (a0 : Array Value) (hw : ∀ d ∈ tables_1, d.before a0 Z = true) (ws : List Jvm.Cond) (a1 : Addr) (p2 : Int32) (w1 : Addr) (w2 : Addr) (k1 : ClassId) (k2 : ClassId) (h0 : Heap) (n0 : Nat) (Z0 : n0 ≤ h0.size) (F_a1_protections : Fld Z h0 a1 "com/example/path_acl_check/pathaclcheck/RecordTable" "protections" "[Lcom/example/path_acl_check/pathaclcheck/Protection;" (.ref w1)) (F_a1_protectionNumbers : Fld Z h0 a1 "com/example/path_acl_check/pathaclcheck/RecordTable" "protectionNumbers" "[I" (.ref w2)) (V_w1 : Arv Z h0 w1 k1 (.object "com/example/path_acl_check/pathaclcheck/Protection") (16 : Int32) [] .null) (V_w2 : Arv Z h0 w2 k2 .int (16 : Int32) [] (.int (0 : Int32))) (hix : ¬ p2 < (0 : Int32) ∧ p2 < (16 : Int32)) :
    MetFree l (⟨"com/example/path_acl_check/pathaclcheck/RecordTable", "protection", "(I)Lcom/example/path_acl_check/pathaclcheck/Protection;"⟩ : MethodName) (head1 (Jvm.Cond.code (⟨"com/example/path_acl_check/pathaclcheck/RecordTable", "protection", "(I)Lcom/example/path_acl_check/pathaclcheck/Protection;"⟩ : MethodName) prog_26_method_13_code 2 (some (.object "com/example/path_acl_check/pathaclcheck/Protection")) :: ws) ({ frames := 0, cells := 0, slots := 0, locals := 0 } : Room)) (fun a U => a = #[(.ref a1), (.int p2)] ∧ Z.Warmed39 U.vm ∧ U.heap = h0) (fun _ _ _ _ _ => True) (fun _ U o U' => ∃ v L, o = .returned v ∧ Q3 Z a1 p2 w1 w2 k1 k2 h0 n0 v U'.heap L ∧ FrameEnd U o U' L ({ frames := 0, cells := 0, slots := 0, locals := 0 } : Room).cells ({ frames := 0, cells := 0, slots := 0, locals := 0 } : Room).slots) := by
  refine MetFree.of_bodySF (plainFor_of_name own_pn0) hisR ?_
  intro p e s m args below meth c s₁ Bd hml0 hP hK
  obtain ⟨rfl, hZ, hh⟩ := hP
  have hx := Bd.exec
  have hby := Bd.bytes
  have hml : c.maxLocals = 2 := hml0
  have hown : s.vm.findClass "com/example/path_acl_check/pathaclcheck/RecordTable" = some m.cls := findClass_of_methodNamed Bd.named
  have hnm := (name_of_methodNamed Bd.named Bd.method).1
  have X0 : Stand p l e ({ frames := 0, cells := 0, slots := 0, locals := 0 } : Room) s m #[(.ref a1), (.int p2)] below meth c s₁ [] 0 0 := Stand.of_body Bd
  have e0 : s₁.heap = h0 := by rw [← hh, Bd.state]; rfl
  have N0 := Fr.nil n0
  have K0 : Keep h0 h0 [] := Keep.refl h0 _
  have pre0 : ∀ t, Steps p.tables e below (s₁.setTop (mkF m 0 #[.val (.ref a1), .val (.int p2)] [])) t → Steps p.tables e below (s₁.setTop (entryFrame m #[(.ref a1), (.int p2)] 2)) t := fun t k => castTop (own_ef_rm3 m a1 p2) k
  obtain ⟨T53, X53, e53, st53⟩ := getF X0 hx hZ hown (host := "") (Or.inl (hw _ (List.mem_of_getElem? (i := 18) rfl))) Via.refl e0 F_a1_protections (g := (mkF m 1 #[.val (.ref a1), .val (.int p2)] [(.ref a1)])) rfl rfl (hb hby own_d4_1)
  obtain ⟨T54, X54, e54, st54⟩ := getF X53 hx hZ hown (host := "") (Or.inl (hw _ (List.mem_of_getElem? (i := 14) rfl))) Via.refl e53 F_a1_protectionNumbers (g := (mkF m 5 #[.val (.ref a1), .val (.int p2)] [(.ref a1), (.ref w1)])) rfl rfl (hb hby own_d4_5)
  obtain ⟨cl55, Ar55, q55, S55, M55, H55, G55⟩ := id V_w2
  have hin55 : ¬ (p2 < 0 ∨ cl55.slots.size ≤ (p2).toNatClampNeg) := inb_of S55 hix
  have hat55 : cl55.slots[(p2).toNatClampNeg]? = some (.int (0 : Int32)) := Has.at H55 hin55 rfl
  obtain ⟨cl56, Ar56, q56, S56, M56, H56, G56⟩ := id V_w1
  have hin56 : ¬ ((0 : Int32) < 0 ∨ cl56.slots.size ≤ ((0 : Int32)).toNatClampNeg) := inb_of S56 ⟨by decide, by decide⟩
  have hat56 : cl56.slots[((0 : Int32)).toNatClampNeg]? = some .null := Has.at H56 hin56 rfl
  obtain ⟨fs, hr, hrun, hended, hW, hsame⟩ := X54.leave (v := some .null) (fun h => by rw [Bd.returns] at h; cases h)
  refine ⟨_, _, pre0 _ ?_, hrun, hended, _, _, rfl, ?_, ⟨_, rfl⟩, hW, hsame.mono (by decide) (by decide)⟩
  · show Steps p.tables e below (s₁.setTop (mkF m 0 #[.val (.ref a1), .val (.int p2)] [])) _
    refine XS.aloadN X0.here hx rfl (hb hby own_d4_0) rfl rfl ?_
    show Steps p.tables e below (s₁.setTop (mkF m 1 #[.val (.ref a1), .val (.int p2)] [(.ref a1)])) _
    refine st53 _ ?_
    show Steps p.tables e below (T53.setTop (mkF m 4 #[.val (.ref a1), .val (.int p2)] [(.ref w1)])) _
    refine XS.aloadN X53.here hx rfl (hb hby own_d4_4) rfl rfl ?_
    show Steps p.tables e below (T53.setTop (mkF m 5 #[.val (.ref a1), .val (.int p2)] [(.ref a1), (.ref w1)])) _
    refine st54 _ ?_
    show Steps p.tables e below (T54.setTop (mkF m 8 #[.val (.ref a1), .val (.int p2)] [(.ref w2), (.ref w1)])) _
    refine XS.iloadN X54.here hx rfl (hb hby own_d4_8) rfl ?_
    show Steps p.tables e below (T54.setTop (mkF m 9 #[.val (.ref a1), .val (.int p2)] [(.int p2), (.ref w2), (.ref w1)])) _
    refine X54.iaload hx (j := p2) (v := (.int (0 : Int32))) (by rw [e54]; exact Ar55.1) (State.isArrayOf_alike hZ.alike Ar55.2.1) Ar55.2.2 hin55 hat55 (g := (mkF m 9 #[.val (.ref a1), .val (.int p2)] [(.int p2), (.ref w2), (.ref w1)])) rfl rfl (hb hby own_d4_9) _ ?_
    show Steps p.tables e below (T54.setTop (mkF m 10 #[.val (.ref a1), .val (.int p2)] [(.int (0 : Int32)), (.ref w1)])) _
    refine X54.aaload hx (j := (0 : Int32)) (v := .null) (by rw [e54]; exact Ar56.1) (State.isArrayOf_alike hZ.alike Ar56.2.1) rfl Ar56.2.2 hin56 hat56 (g := (mkF m 10 #[.val (.ref a1), .val (.int p2)] [(.int (0 : Int32)), (.ref w1)])) rfl rfl (hb hby own_d4_10) _ ?_
    show Steps p.tables e below (T54.setTop (mkF m 11 #[.val (.ref a1), .val (.int p2)] [.null])) _
    jvm_step X54.here [X54.here.top, hx, (hb hby own_d4_11), X54.method', Bd.returns, Value.isRef, FieldType.isReference]
    first | (intro acts; rw [hr _ acts rfl rfl rfl]) | rw [hr _ _ rfl rfl rfl]
    exact Steps.refl _
  · show Q3 Z a1 p2 w1 w2 k1 k2 h0 n0 _ T54.heap _
    rw [e54]
    exact ⟨rfl, N0, rfl⟩
theorem own_d3_0 : decode prog_14_method_1_code 0 = .ok (.aload_n 0, 1) := by decide +kernel
theorem own_d3_1 : decode prog_14_method_1_code 1 = .ok (.invokespecial 1, 3) := by decide +kernel
theorem own_d3_4 : decode prog_14_method_1_code 4 = .ok (.aload_n 0, 1) := by decide +kernel
theorem own_d3_5 : decode prog_14_method_1_code 5 = .ok (.aload_n 1, 1) := by decide +kernel
theorem own_d3_6 : decode prog_14_method_1_code 6 = .ok (.putfield 7, 3) := by decide +kernel
theorem own_d3_9 : decode prog_14_method_1_code 9 = .ok (.aload_n 0, 1) := by decide +kernel
theorem own_d3_10 : decode prog_14_method_1_code 10 = .ok (.iload_n 2, 1) := by decide +kernel
theorem own_d3_11 : decode prog_14_method_1_code 11 = .ok (.putfield 13, 3) := by decide +kernel
theorem own_d3_14 : decode prog_14_method_1_code 14 = .ok (.aload_n 0, 1) := by decide +kernel
theorem own_d3_15 : decode prog_14_method_1_code 15 = .ok (.aconst_null, 1) := by decide +kernel
theorem own_d3_16 : decode prog_14_method_1_code 16 = .ok (.putfield 17, 3) := by decide +kernel
theorem own_d3_19 : decode prog_14_method_1_code 19 = .ok (.aload_n 0, 1) := by decide +kernel
theorem own_d3_20 : decode prog_14_method_1_code 20 = .ok (.aload_n 1, 1) := by decide +kernel
theorem own_d3_21 : decode prog_14_method_1_code 21 = .ok (.iload_n 2, 1) := by decide +kernel
theorem own_d3_22 : decode prog_14_method_1_code 22 = .ok (.invokevirtual 21, 3) := by decide +kernel
theorem own_pd0 : parseMethodDescriptor "(I)Lcom/example/path_acl_check/pathaclcheck/Protection;" = some ⟨[.int], some (.object "com/example/path_acl_check/pathaclcheck/Protection")⟩ := by decide +kernel
theorem own_d3_25 : decode prog_14_method_1_code 25 = .ok (.putfield 27, 3) := by decide +kernel
theorem own_d3_28 : decode prog_14_method_1_code 28 = .ok (.return_, 1) := by decide +kernel
theorem own_pn1 : plainName "com/example/path_acl_check/pathaclcheck/AclRecord" = true := by first | (simp [plainName, overriddenIn]; done) | decide +kernel
theorem own_ef_rm2 (m : MethodId) (a1 : Addr) (a2 : Addr) (p3 : Int32) : entryFrame m #[(.ref a1), (.ref a2), (.int p3)] 3 = mkF m 0 #[.val (.ref a1), .val (.ref a2), .val (.int p3)] [] := by first | (simp [entryFrame, mkF, argsToLocals, Value.category]; done) | rfl
def Q2 (Z : State) (a1 : Addr) (a2 : Addr) (p3 : Int32) (w1 : Addr) (w2 : Addr) (k1 : ClassId) (k2 : ClassId) (h0 : Heap) (n0 : Nat) (v : Option Value) (h : Heap) (L : List Loc) : Prop := v = none ∧ Fr n0 L ∧ Keep h0 h [a1] ∧ Exa Z h a1 "com/example/path_acl_check/pathaclcheck/AclRecord" ∧ Fld Z h a1 "com/example/path_acl_check/pathaclcheck/AclRecord" "table" "Lcom/example/path_acl_check/pathaclcheck/RecordTable;" (.ref a2) ∧ Fld Z h a1 "com/example/path_acl_check/pathaclcheck/AclRecord" "record" "I" (.int p3)
set_option maxRecDepth 65536 in
set_option maxHeartbeats 40000000 in
theorem rm2 (l : Launch) (Z : State) (a0 : Array Value) (hw : ∀ d ∈ tables_1, d.before a0 Z = true) (ws : List Jvm.Cond) (a1 : Addr) (a2 : Addr) (p3 : Int32) (w1 : Addr) (w2 : Addr) (k1 : ClassId) (k2 : ClassId) (h0 : Heap) (n0 : Nat) (Z0 : n0 ≤ h0.size) (E_a1 : Exa Z h0 a1 "com/example/path_acl_check/pathaclcheck/AclRecord") (F_a1_table : Fld Z h0 a1 "com/example/path_acl_check/pathaclcheck/AclRecord" "table" "Lcom/example/path_acl_check/pathaclcheck/RecordTable;" .null) (F_a1_record : Fld Z h0 a1 "com/example/path_acl_check/pathaclcheck/AclRecord" "record" "I" (.int (0 : Int32))) (F_a1_childName : Fld Z h0 a1 "com/example/path_acl_check/pathaclcheck/AclRecord" "childName" "Ljava/lang/String;" .null) (F_a1_protection : Fld Z h0 a1 "com/example/path_acl_check/pathaclcheck/AclRecord" "protection" "Lcom/example/path_acl_check/pathaclcheck/Protection;" .null) (gg_a1 : n0 ≤ a1) (E_a2 : Exa Z h0 a2 "com/example/path_acl_check/pathaclcheck/RecordTable") (F_a2_protections : Fld Z h0 a2 "com/example/path_acl_check/pathaclcheck/RecordTable" "protections" "[Lcom/example/path_acl_check/pathaclcheck/Protection;" (.ref w1)) (F_a2_protectionNumbers : Fld Z h0 a2 "com/example/path_acl_check/pathaclcheck/RecordTable" "protectionNumbers" "[I" (.ref w2)) (V_w1 : Arv Z h0 w1 k1 (.object "com/example/path_acl_check/pathaclcheck/Protection") (16 : Int32) [] .null) (V_w2 : Arv Z h0 w2 k2 .int (16 : Int32) [] (.int (0 : Int32))) (hix : ¬ p3 < (0 : Int32) ∧ p3 < (16 : Int32)) (ne_a1_a2 : a1 ≠ a2) (ne_a1_w1 : a1 ≠ w1) (ne_a1_w2 : a1 ≠ w2) :
    MetFree l (⟨"com/example/path_acl_check/pathaclcheck/AclRecord", "<init>", "(Lcom/example/path_acl_check/pathaclcheck/RecordTable;I)V"⟩ : MethodName) (head1 (Jvm.Cond.code (⟨"com/example/path_acl_check/pathaclcheck/AclRecord", "<init>", "(Lcom/example/path_acl_check/pathaclcheck/RecordTable;I)V"⟩ : MethodName) prog_14_method_1_code 3 none :: ws) ({ frames := 1, cells := 0, slots := 0, locals := 14 } : Room)) (fun a U => a = #[(.ref a1), (.ref a2), (.int p3)] ∧ Z.Warmed39 U.vm ∧ U.heap = h0) (fun _ _ _ _ _ => True) (fun _ U o U' => ∃ v L, o = .returned v ∧ Q2 Z a1 a2 p3 w1 w2 k1 k2 h0 n0 v U'.heap L ∧ FrameEnd U o U' L ({ frames := 1, cells := 0, slots := 0, locals := 14 } : Room).cells ({ frames := 1, cells := 0, slots := 0, locals := 14 } : Room).slots) := by
  refine MetFree.of_bodySF (plainFor_of_name own_pn1) hisR ?_
  intro p e s m args below meth c s₁ Bd hml0 hP hK
  obtain ⟨rfl, hZ, hh⟩ := hP
  have hx := Bd.exec
  have hby := Bd.bytes
  have hml : c.maxLocals = 3 := hml0
  have hown : s.vm.findClass "com/example/path_acl_check/pathaclcheck/AclRecord" = some m.cls := findClass_of_methodNamed Bd.named
  have hnm := (name_of_methodNamed Bd.named Bd.method).1
  have X0 : Stand p l e ({ frames := 1, cells := 0, slots := 0, locals := 14 } : Room) s m #[(.ref a1), (.ref a2), (.int p3)] below meth c s₁ [] 0 0 := Stand.of_body Bd
  have e0 : s₁.heap = h0 := by rw [← hh, Bd.state]; rfl
  have N0 := Fr.nil n0
  have K0 : Keep h0 h0 [a1] := Keep.refl h0 _
  have pre0 : ∀ t, Steps p.tables e below (s₁.setTop (mkF m 0 #[.val (.ref a1), .val (.ref a2), .val (.int p3)] [])) t → Steps p.tables e below (s₁.setTop (entryFrame m #[(.ref a1), (.ref a2), (.int p3)] 3)) t := fun t k => castTop (own_ef_rm2 m a1 a2 p3) k
  obtain ⟨T57, X57, e57, st57⟩ := initO X0 hx hZ hown (hw _ (List.mem_of_getElem? (i := 34) rfl)) (hw _ (List.mem_of_getElem? (i := 7) rfl)) (hw _ (List.mem_of_getElem? (i := 8) rfl)) e0 (g := (mkF m 1 #[.val (.ref a1), .val (.ref a2), .val (.int p3)] [(.ref a1)])) rfl (by rw [hml]; rfl) rfl (hb hby own_d3_1) (by decide) (W := 0) (by show 2 * 0 + _ ≤ _; exact Nat.le_of_eq rfl) (by decide)
  obtain ⟨T58, h58, X58, e58, W58, st58⟩ := putF X57 hx hZ hown (host := "") (Or.inl (hw _ (List.mem_of_getElem? (i := 35) rfl))) Via.refl e57 F_a1_table E_a1 (Or.inr ⟨(hw _ (List.mem_of_getElem? (i := 36) rfl)), rfl, hnm⟩) (hw _ (List.mem_of_getElem? (i := 29) rfl)) (ty := (.object "com/example/path_acl_check/pathaclcheck/RecordTable")) (by decide) rfl rfl (g := (mkF m 6 #[.val (.ref a1), .val (.ref a2), .val (.int p3)] [(.ref a2), (.ref a1)])) rfl rfl (hb hby own_d3_6)
  have Fw58 := F_a1_table.same W58
  have K58 := K0.wr W58 (Or.inl (List.mem_of_getElem? (i := 0) rfl))
  have N58 := Fr.snoc X58 N0 gg_a1
  have Q59 := (E_a1.wr W58)
  have Q60 := (F_a1_record.other W58 (Or.inr (slot_ne (Or.inr (hw _ (List.mem_of_getElem? (i := 38) rfl))) (Or.inr (hw _ (List.mem_of_getElem? (i := 36) rfl))) (by decide) (t := .int) (t' := (.object "com/example/path_acl_check/pathaclcheck/RecordTable")) (by decide) (by decide))))
  obtain ⟨T61, h61, X61, e61, W61, st61⟩ := putF X58 hx hZ hown (host := "") (Or.inl (hw _ (List.mem_of_getElem? (i := 37) rfl))) Via.refl e58 Q60 Q59 (Or.inr ⟨(hw _ (List.mem_of_getElem? (i := 38) rfl)), rfl, hnm⟩) (hw _ (List.mem_of_getElem? (i := 29) rfl)) (ty := .int) (by decide) rfl rfl (g := (mkF m 11 #[.val (.ref a1), .val (.ref a2), .val (.int p3)] [(.int p3), (.ref a1)])) rfl rfl (hb hby own_d3_11)
  have Fw61 := Q60.same W61
  have K61 := K58.wr W61 (Or.inl (List.mem_of_getElem? (i := 0) rfl))
  have N61 := Fr.snoc X61 N58 gg_a1
  have Q62 := (Q59.wr W61)
  have Q63 := ((F_a1_childName.other W58 (Or.inr (slot_ne (Or.inr (hw _ (List.mem_of_getElem? (i := 40) rfl))) (Or.inr (hw _ (List.mem_of_getElem? (i := 36) rfl))) (by decide) (t := (.object "java/lang/String")) (t' := (.object "com/example/path_acl_check/pathaclcheck/RecordTable")) (by decide) (by decide)))).other W61 (Or.inr (slot_ne (Or.inr (hw _ (List.mem_of_getElem? (i := 40) rfl))) (Or.inr (hw _ (List.mem_of_getElem? (i := 38) rfl))) (by decide) (t := (.object "java/lang/String")) (t' := .int) (by decide) (by decide))))
  obtain ⟨T64, h64, X64, e64, W64, st64⟩ := putF X61 hx hZ hown (host := "") (Or.inl (hw _ (List.mem_of_getElem? (i := 39) rfl))) Via.refl e61 Q63 Q62 (Or.inr ⟨(hw _ (List.mem_of_getElem? (i := 40) rfl)), rfl, hnm⟩) (hw _ (List.mem_of_getElem? (i := 29) rfl)) (ty := (.object "java/lang/String")) (by decide) rfl rfl (g := (mkF m 16 #[.val (.ref a1), .val (.ref a2), .val (.int p3)] [.null, (.ref a1)])) rfl rfl (hb hby own_d3_16)
  have Fw64 := Q63.same W64
  have K64 := K61.wr W64 (Or.inl (List.mem_of_getElem? (i := 0) rfl))
  have N64 := Fr.snoc X64 N61 gg_a1
  have Q65 := (((F_a2_protections.other W58 (Or.inl (Ne.symm ne_a1_a2))).other W61 (Or.inl (Ne.symm ne_a1_a2))).other W64 (Or.inl (Ne.symm ne_a1_a2)))
  have Q66 := (((F_a2_protectionNumbers.other W58 (Or.inl (Ne.symm ne_a1_a2))).other W61 (Or.inl (Ne.symm ne_a1_a2))).other W64 (Or.inl (Ne.symm ne_a1_a2)))
  have Q67 := (((V_w1.other W58 (Ne.symm ne_a1_w1)).other W61 (Ne.symm ne_a1_w1)).other W64 (Ne.symm ne_a1_w1))
  have Q68 := (((V_w2.other W58 (Ne.symm ne_a1_w2)).other W61 (Ne.symm ne_a1_w2)).other W64 (Ne.symm ne_a1_w2))
  have Q70 := (((E_a2.wr W58).wr W61).wr W64)
  obtain ⟨cq69, kq69, q69a, q69b, q69c⟩ := isOf hZ e64 Q70
  obtain ⟨_, _, ⟨T69, L69, k69, n69⟩, -, X69, ⟨Lc69, hQ69, l69, y69, z69⟩, st69⟩ := X64.virtualBack hx (y := (⟨"com/example/path_acl_check/pathaclcheck/RecordTable", "protection", "(I)Lcom/example/path_acl_check/pathaclcheck/Protection;"⟩ : MethodName)) (z := (⟨"com/example/path_acl_check/pathaclcheck/RecordTable", "protection", "(I)Lcom/example/path_acl_check/pathaclcheck/Protection;"⟩ : MethodName)) hown (mvT hZ (hw _ (List.mem_of_getElem? (i := 41) rfl))) (mvT hZ (hw _ (List.mem_of_getElem? (i := 42) rfl))) (notFace_of_selects (args := #[]) (mvT hZ (hw _ (List.mem_of_getElem? (i := 44) rfl)))) (mvT hZ (hw _ (List.mem_of_getElem? (i := 44) rfl))) (mvT hZ (hw _ (List.mem_of_getElem? (i := 43) rfl))) (by decide) (backOf (W := 1) (rm3 l Z a0 hw [] a2 p3 w1 w2 k1 k2 h64 n0 (Nat.le_trans Z0 K64.1) Q65 Q66 Q67 Q68 hix) hZ (hw _ (List.mem_of_getElem? (i := 45) rfl)) (hw _ (List.mem_of_getElem? (i := 2) rfl)) (by decide) (by decide)) q69a q69c (g := (mkF m 22 #[.val (.ref a1), .val (.ref a2), .val (.int p3)] [(.int p3), (.ref a2), (.ref a1)])) rfl (by rw [hml]; rfl) (Steps.refl _) (argsL := [(.int p3)]) (rest := [(.ref a1)]) (lenOf own_pd0 rfl) rfl (by show 2 * 0 + _ ≤ _; exact Nat.le_of_eq rfl) (hb hby own_d3_22) (fun _ _ => ⟨rfl, e64, (by decide : 0 + 0 ≤ _), (by decide : 0 + 0 ≤ _)⟩)
  dsimp only [Pt.U, Pt.locs, Pt.cells, Pt.slots] at X69 l69 y69 z69 st69 hQ69
  subst l69 y69 z69
  obtain ⟨rfl, N69q, e69⟩ := hQ69
  have N69 := Fr.app N64 N69q
  have Q71 := (Q62.wr W64)
  have Q72 := (((F_a1_protection.other W58 (Or.inr (slot_ne (Or.inr (hw _ (List.mem_of_getElem? (i := 47) rfl))) (Or.inr (hw _ (List.mem_of_getElem? (i := 36) rfl))) (by decide) (t := (.object "com/example/path_acl_check/pathaclcheck/Protection")) (t' := (.object "com/example/path_acl_check/pathaclcheck/RecordTable")) (by decide) (by decide)))).other W61 (Or.inr (slot_ne (Or.inr (hw _ (List.mem_of_getElem? (i := 47) rfl))) (Or.inr (hw _ (List.mem_of_getElem? (i := 38) rfl))) (by decide) (t := (.object "com/example/path_acl_check/pathaclcheck/Protection")) (t' := .int) (by decide) (by decide)))).other W64 (Or.inr (slot_ne (Or.inr (hw _ (List.mem_of_getElem? (i := 47) rfl))) (Or.inr (hw _ (List.mem_of_getElem? (i := 40) rfl))) (by decide) (t := (.object "com/example/path_acl_check/pathaclcheck/Protection")) (t' := (.object "java/lang/String")) (by decide) (by decide))))
  obtain ⟨T73, h73, X73, e73, W73, st73⟩ := putF X69 hx hZ hown (host := "") (Or.inl (hw _ (List.mem_of_getElem? (i := 46) rfl))) Via.refl e69 Q72 Q71 (Or.inr ⟨(hw _ (List.mem_of_getElem? (i := 47) rfl)), rfl, hnm⟩) (hw _ (List.mem_of_getElem? (i := 29) rfl)) (ty := (.object "com/example/path_acl_check/pathaclcheck/Protection")) (by decide) rfl rfl (g := (mkF m 25 #[.val (.ref a1), .val (.ref a2), .val (.int p3)] [.null, (.ref a1)])) rfl rfl (hb hby own_d3_25)
  have Fw73 := Q72.same W73
  have K73 := K64.wr W73 (Or.inl (List.mem_of_getElem? (i := 0) rfl))
  have N73 := Fr.snoc X73 N69 gg_a1
  have Q74 := (Q71.wr W73)
  have Q75 := (((Fw58.other W61 (Or.inr (slot_ne (Or.inr (hw _ (List.mem_of_getElem? (i := 36) rfl))) (Or.inr (hw _ (List.mem_of_getElem? (i := 38) rfl))) (by decide) (t := (.object "com/example/path_acl_check/pathaclcheck/RecordTable")) (t' := .int) (by decide) (by decide)))).other W64 (Or.inr (slot_ne (Or.inr (hw _ (List.mem_of_getElem? (i := 36) rfl))) (Or.inr (hw _ (List.mem_of_getElem? (i := 40) rfl))) (by decide) (t := (.object "com/example/path_acl_check/pathaclcheck/RecordTable")) (t' := (.object "java/lang/String")) (by decide) (by decide)))).other W73 (Or.inr (slot_ne (Or.inr (hw _ (List.mem_of_getElem? (i := 36) rfl))) (Or.inr (hw _ (List.mem_of_getElem? (i := 47) rfl))) (by decide) (t := (.object "com/example/path_acl_check/pathaclcheck/RecordTable")) (t' := (.object "com/example/path_acl_check/pathaclcheck/Protection")) (by decide) (by decide))))
  have Q76 := ((Fw61.other W64 (Or.inr (slot_ne (Or.inr (hw _ (List.mem_of_getElem? (i := 38) rfl))) (Or.inr (hw _ (List.mem_of_getElem? (i := 40) rfl))) (by decide) (t := .int) (t' := (.object "java/lang/String")) (by decide) (by decide)))).other W73 (Or.inr (slot_ne (Or.inr (hw _ (List.mem_of_getElem? (i := 38) rfl))) (Or.inr (hw _ (List.mem_of_getElem? (i := 47) rfl))) (by decide) (t := .int) (t' := (.object "com/example/path_acl_check/pathaclcheck/Protection")) (by decide) (by decide))))
  obtain ⟨fs, hr, hrun, hended, hW, hsame⟩ := X73.leave (v := none) (fun _ => rfl)
  refine ⟨_, _, pre0 _ ?_, hrun, hended, _, _, rfl, ?_, ⟨_, rfl⟩, hW, hsame.mono (by decide) (by decide)⟩
  · show Steps p.tables e below (s₁.setTop (mkF m 0 #[.val (.ref a1), .val (.ref a2), .val (.int p3)] [])) _
    refine XS.aloadN X0.here hx rfl (hb hby own_d3_0) rfl rfl ?_
    show Steps p.tables e below (s₁.setTop (mkF m 1 #[.val (.ref a1), .val (.ref a2), .val (.int p3)] [(.ref a1)])) _
    refine st57 _ ?_
    show Steps p.tables e below (T57.setTop (mkF m 4 #[.val (.ref a1), .val (.ref a2), .val (.int p3)] [])) _
    refine XS.aloadN X57.here hx rfl (hb hby own_d3_4) rfl rfl ?_
    show Steps p.tables e below (T57.setTop (mkF m 5 #[.val (.ref a1), .val (.ref a2), .val (.int p3)] [(.ref a1)])) _
    refine XS.aloadN X57.here hx rfl (hb hby own_d3_5) rfl rfl ?_
    show Steps p.tables e below (T57.setTop (mkF m 6 #[.val (.ref a1), .val (.ref a2), .val (.int p3)] [(.ref a2), (.ref a1)])) _
    refine st58 _ ?_
    show Steps p.tables e below (T58.setTop (mkF m 9 #[.val (.ref a1), .val (.ref a2), .val (.int p3)] [])) _
    refine XS.aloadN X58.here hx rfl (hb hby own_d3_9) rfl rfl ?_
    show Steps p.tables e below (T58.setTop (mkF m 10 #[.val (.ref a1), .val (.ref a2), .val (.int p3)] [(.ref a1)])) _
    refine XS.iloadN X58.here hx rfl (hb hby own_d3_10) rfl ?_
    show Steps p.tables e below (T58.setTop (mkF m 11 #[.val (.ref a1), .val (.ref a2), .val (.int p3)] [(.int p3), (.ref a1)])) _
    refine st61 _ ?_
    show Steps p.tables e below (T61.setTop (mkF m 14 #[.val (.ref a1), .val (.ref a2), .val (.int p3)] [])) _
    refine XS.aloadN X61.here hx rfl (hb hby own_d3_14) rfl rfl ?_
    show Steps p.tables e below (T61.setTop (mkF m 15 #[.val (.ref a1), .val (.ref a2), .val (.int p3)] [(.ref a1)])) _
    refine XS.aconstNull X61.here hx rfl (hb hby own_d3_15) ?_
    show Steps p.tables e below (T61.setTop (mkF m 16 #[.val (.ref a1), .val (.ref a2), .val (.int p3)] [.null, (.ref a1)])) _
    refine st64 _ ?_
    show Steps p.tables e below (T64.setTop (mkF m 19 #[.val (.ref a1), .val (.ref a2), .val (.int p3)] [])) _
    refine XS.aloadN X64.here hx rfl (hb hby own_d3_19) rfl rfl ?_
    show Steps p.tables e below (T64.setTop (mkF m 20 #[.val (.ref a1), .val (.ref a2), .val (.int p3)] [(.ref a1)])) _
    refine XS.aloadN X64.here hx rfl (hb hby own_d3_20) rfl rfl ?_
    show Steps p.tables e below (T64.setTop (mkF m 21 #[.val (.ref a1), .val (.ref a2), .val (.int p3)] [(.ref a2), (.ref a1)])) _
    refine XS.iloadN X64.here hx rfl (hb hby own_d3_21) rfl ?_
    show Steps p.tables e below (T64.setTop (mkF m 22 #[.val (.ref a1), .val (.ref a2), .val (.int p3)] [(.int p3), (.ref a2), (.ref a1)])) _
    refine st69.trans ?_
    show Steps p.tables e below (T69.setTop (mkF m 25 #[.val (.ref a1), .val (.ref a2), .val (.int p3)] [.null, (.ref a1)])) _
    refine st73 _ ?_
    show Steps p.tables e below (T73.setTop (mkF m 28 #[.val (.ref a1), .val (.ref a2), .val (.int p3)] [])) _
    exact X73.returnOut hx Bd.returns (hb hby own_d3_28) hr
  · show Q2 Z a1 a2 p3 w1 w2 k1 k2 h0 n0 _ T73.heap _
    rw [e73]
    exact ⟨rfl, N73, K73, Q74, Q75, Q76⟩
theorem own_notinst {Z : State} {a0 : Array Value} {C O K : String} {n : Nat} (w : (Cond.superclass C O).before a0 Z = true) (wo : (Cond.noSuperclass O).before a0 Z = true) (wk : (Cond.instantiable K n).before a0 Z = true) (hn : C ≠ K) (ho : O ≠ K) : ∃ c t, Z.vm.findClass C = some c ∧ Z.vm.findClass K = some t ∧ Z.vm.assignable c t = false := by
  obtain ⟨c, h0⟩ := found_sup w
  obtain ⟨p, k, kp, h1, h2, h3, h4, h5, -, h7⟩ := Cond.superclass_spec h0 w
  obtain ⟨c2, k2, a1, a2, a3, a4, a5⟩ := Cond.noSuperclass_spec wo
  obtain ⟨t, kt, g0, g2, g5, g7, -⟩ := Cond.instantiable_spec wk
  cases h1.symm.trans a1
  have ne := ids_ne h0 g0 hn
  have ne2 := ids_ne a1 g0 ho
  have g8 : kt.isInterface = false := by
    cases q : kt.isInterface
    · rfl
    · simp [q] at g7
  have n2 : ∀ fuel, Z.vm.isSubclassAux fuel p t = false := fun fuel => by
    cases fuel with
    | zero => rfl
    | succ f => simp [Vm.isSubclassAux, ne2, a2, a3]
  have n3 : ∀ fuel, Z.vm.isSubclassAux fuel c t = false := fun fuel => by
    cases fuel with
    | zero => rfl
    | succ f => simp [Vm.isSubclassAux, ne, h2, h4, n2]
  refine ⟨c, t, h0, g0, ?_⟩
  show Z.vm.assignableAux (255 + 1) c t = false
  simp [Vm.assignableAux, ne, h2, g2, h5, g5, g8, Vm.isSubclass, n3]
theorem own_d5_0 : decode prog_14_method_12_code 0 = .ok (.aload_n 1, 1) := by decide +kernel
theorem own_d5_1 : decode prog_14_method_12_code 1 = .ok (.instanceof 8, 3) := by decide +kernel
theorem own_d5_4 : decode prog_14_method_12_code 4 = .ok (.ifCond .eq 41, 3) := by decide +kernel
theorem own_d5_45 : decode prog_14_method_12_code 45 = .ok (.iconst 0, 1) := by decide +kernel
theorem own_d5_46 : decode prog_14_method_12_code 46 = .ok (.istore_n 2, 1) := by decide +kernel
theorem own_d5_47 : decode prog_14_method_12_code 47 = .ok (.iload_n 2, 1) := by decide +kernel
theorem own_d5_48 : decode prog_14_method_12_code 48 = .ok (.ifCond .ne 8, 3) := by decide +kernel
theorem own_d5_51 : decode prog_14_method_12_code 51 = .ok (.aload_n 1, 1) := by decide +kernel
theorem own_d5_52 : decode prog_14_method_12_code 52 = .ok (.aload_n 0, 1) := by decide +kernel
theorem own_d5_53 : decode prog_14_method_12_code 53 = .ok (.if_acmp .ne 7, 3) := by decide +kernel
theorem own_d5_60 : decode prog_14_method_12_code 60 = .ok (.iconst 0, 1) := by decide +kernel
theorem own_d5_61 : decode prog_14_method_12_code 61 = .ok (.ireturn, 1) := by decide +kernel
theorem own_ef_rm4_n (m : MethodId) (a1 : Addr) : entryFrame m #[(.ref a1), .null] 4 = mkF m 0 #[.val (.ref a1), .val .null, .unset, .unset] [] := by first | (simp [entryFrame, mkF, argsToLocals, Value.category]; done) | rfl
def Q4_n (Z : State) (a1 : Addr) (h0 : Heap) (n0 : Nat) (v : Option Value) (h : Heap) (L : List Loc) : Prop := v = some (.int (0 : Int32)) ∧ Fr n0 L ∧ h = h0
set_option maxRecDepth 65536 in
set_option maxHeartbeats 40000000 in
theorem rm4_n (l : Launch) (Z : State) (a0 : Array Value) (hw : ∀ d ∈ tables_1, d.before a0 Z = true) (ws : List Jvm.Cond) (a1 : Addr) (h0 : Heap) (n0 : Nat) (Z0 : n0 ≤ h0.size) :
    MetFree l (⟨"com/example/path_acl_check/pathaclcheck/AclRecord", "equals", "(Ljava/lang/Object;)Z"⟩ : MethodName) (head1 (Jvm.Cond.code (⟨"com/example/path_acl_check/pathaclcheck/AclRecord", "equals", "(Ljava/lang/Object;)Z"⟩ : MethodName) prog_14_method_12_code 4 (some .boolean) :: ws) ({ frames := 0, cells := 0, slots := 0, locals := 0 } : Room)) (fun a U => a = #[(.ref a1), .null] ∧ Z.Warmed39 U.vm ∧ U.heap = h0) (fun _ _ _ _ _ => True) (fun _ U o U' => ∃ v L, o = .returned v ∧ Q4_n Z a1 h0 n0 v U'.heap L ∧ FrameEnd U o U' L ({ frames := 0, cells := 0, slots := 0, locals := 0 } : Room).cells ({ frames := 0, cells := 0, slots := 0, locals := 0 } : Room).slots) := by
  refine MetFree.of_bodySF (plainFor_of_name own_pn1) hisR ?_
  intro p e s m args below meth c s₁ Bd hml0 hP hK
  obtain ⟨rfl, hZ, hh⟩ := hP
  have hx := Bd.exec
  have hby := Bd.bytes
  have hml : c.maxLocals = 4 := hml0
  have hown : s.vm.findClass "com/example/path_acl_check/pathaclcheck/AclRecord" = some m.cls := findClass_of_methodNamed Bd.named
  have hnm := (name_of_methodNamed Bd.named Bd.method).1
  have X0 : Stand p l e ({ frames := 0, cells := 0, slots := 0, locals := 0 } : Room) s m #[(.ref a1), .null] below meth c s₁ [] 0 0 := Stand.of_body Bd
  have e0 : s₁.heap = h0 := by rw [← hh, Bd.state]; rfl
  have N0 := Fr.nil n0
  have K0 : Keep h0 h0 [] := Keep.refl h0 _
  have pre0 : ∀ t, Steps p.tables e below (s₁.setTop (mkF m 0 #[.val (.ref a1), .val .null, .unset, .unset] [])) t → Steps p.tables e below (s₁.setTop (entryFrame m #[(.ref a1), .null] 4)) t := fun t k => castTop (own_ef_rm4_n m a1) k
  obtain ⟨fs, hr, hrun, hended, hW, hsame⟩ := X0.leave (v := some (.int (0 : Int32))) (fun h => by rw [Bd.returns] at h; cases h)
  refine ⟨_, _, pre0 _ ?_, hrun, hended, _, _, rfl, ?_, ⟨_, rfl⟩, hW, hsame.mono (by decide) (by decide)⟩
  · show Steps p.tables e below (s₁.setTop (mkF m 0 #[.val (.ref a1), .val .null, .unset, .unset] [])) _
    refine XS.aloadN X0.here hx rfl (hb hby own_d5_0) rfl rfl ?_
    show Steps p.tables e below (s₁.setTop (mkF m 1 #[.val (.ref a1), .val .null, .unset, .unset] [.null])) _
    refine X0.instanceofNull hx (g := (mkF m 1 #[.val (.ref a1), .val .null, .unset, .unset] [.null])) rfl rfl (hb hby own_d5_1) _ ?_
    show Steps p.tables e below (s₁.setTop (mkF m 4 #[.val (.ref a1), .val .null, .unset, .unset] [(.int (0 : Int32))])) _
    refine XS.ifYes X0.here hx rfl (pc0 := 4) (pc' := 45) rfl (hb hby own_d5_4) rfl ((if0 _ _).trans (teq (by decide : ((0 : Int32) = (0 : Int32)))).1) (by decide) (by decide) ?_
    show Steps p.tables e below (s₁.setTop (mkF m 45 #[.val (.ref a1), .val .null, .unset, .unset] [])) _
    refine XS.iconst X0.here hx rfl (hb hby own_d5_45) ?_
    show Steps p.tables e below (s₁.setTop (mkF m 46 #[.val (.ref a1), .val .null, .unset, .unset] [(.int (0 : Int32))])) _
    refine XS.istoreN X0.here hx rfl (hb hby own_d5_46) rfl (l' := #[.val (.ref a1), .val .null, .val (.int (0 : Int32)), .unset]) rfl ?_
    show Steps p.tables e below (s₁.setTop (mkF m 47 #[.val (.ref a1), .val .null, .val (.int (0 : Int32)), .unset] [])) _
    refine XS.iloadN X0.here hx rfl (hb hby own_d5_47) rfl ?_
    show Steps p.tables e below (s₁.setTop (mkF m 48 #[.val (.ref a1), .val .null, .val (.int (0 : Int32)), .unset] [(.int (0 : Int32))])) _
    refine XS.ifNo X0.here hx rfl (hb hby own_d5_48) rfl ((if0 _ _).trans (teq (by decide : ((0 : Int32) = (0 : Int32)))).2) ?_
    show Steps p.tables e below (s₁.setTop (mkF m 51 #[.val (.ref a1), .val .null, .val (.int (0 : Int32)), .unset] [])) _
    refine XS.aloadN X0.here hx rfl (hb hby own_d5_51) rfl rfl ?_
    show Steps p.tables e below (s₁.setTop (mkF m 52 #[.val (.ref a1), .val .null, .val (.int (0 : Int32)), .unset] [.null])) _
    refine XS.aloadN X0.here hx rfl (hb hby own_d5_52) rfl rfl ?_
    show Steps p.tables e below (s₁.setTop (mkF m 53 #[.val (.ref a1), .val .null, .val (.int (0 : Int32)), .unset] [(.ref a1), .null])) _
    refine Jvm.RoadKit.acmp (g := (mkF m 53 #[.val (.ref a1), .val .null, .val (.int (0 : Int32)), .unset] [(.ref a1), .null])) X0 hx rfl rfl rfl (pc0 := 53) (pc' := 60) (same := false) rfl (hb hby own_d5_53) rfl (decide_eq_false nofun) (by decide) (by decide) ?_
    show Steps p.tables e below (s₁.setTop (mkF m 60 #[.val (.ref a1), .val .null, .val (.int (0 : Int32)), .unset] [])) _
    refine XS.iconst X0.here hx rfl (hb hby own_d5_60) ?_
    show Steps p.tables e below (s₁.setTop (mkF m 61 #[.val (.ref a1), .val .null, .val (.int (0 : Int32)), .unset] [(.int (0 : Int32))])) _
    exact retN X0 hx (t := .boolean) Bd.returns (by simp) (hb hby own_d5_61) hr
  · show Q4_n Z a1 h0 n0 _ s₁.heap _
    rw [e0]
    exact ⟨rfl, N0, rfl⟩
theorem own_ef_rm4_t (m : MethodId) (a1 : Addr) (a2 : Addr) : entryFrame m #[(.ref a1), (.ref a2)] 4 = mkF m 0 #[.val (.ref a1), .val (.ref a2), .unset, .unset] [] := by first | (simp [entryFrame, mkF, argsToLocals, Value.category]; done) | rfl
def Q4_t (Z : State) (a1 : Addr) (a2 : Addr) (h0 : Heap) (n0 : Nat) (v : Option Value) (h : Heap) (L : List Loc) : Prop := v = some (.int (0 : Int32)) ∧ Fr n0 L ∧ h = h0
set_option maxRecDepth 65536 in
set_option maxHeartbeats 40000000 in
theorem rm4_t (l : Launch) (Z : State) (a0 : Array Value) (hw : ∀ d ∈ tables_1, d.before a0 Z = true) (ws : List Jvm.Cond) (a1 : Addr) (a2 : Addr) (h0 : Heap) (n0 : Nat) (Z0 : n0 ≤ h0.size) (E_a2 : Exa Z h0 a2 "com/example/path_acl_check/pathaclcheck/RecordTable") (ne_a2_a1 : a2 ≠ a1) :
    MetFree l (⟨"com/example/path_acl_check/pathaclcheck/AclRecord", "equals", "(Ljava/lang/Object;)Z"⟩ : MethodName) (head1 (Jvm.Cond.code (⟨"com/example/path_acl_check/pathaclcheck/AclRecord", "equals", "(Ljava/lang/Object;)Z"⟩ : MethodName) prog_14_method_12_code 4 (some .boolean) :: ws) ({ frames := 0, cells := 0, slots := 0, locals := 0 } : Room)) (fun a U => a = #[(.ref a1), (.ref a2)] ∧ Z.Warmed39 U.vm ∧ U.heap = h0) (fun _ _ _ _ _ => True) (fun _ U o U' => ∃ v L, o = .returned v ∧ Q4_t Z a1 a2 h0 n0 v U'.heap L ∧ FrameEnd U o U' L ({ frames := 0, cells := 0, slots := 0, locals := 0 } : Room).cells ({ frames := 0, cells := 0, slots := 0, locals := 0 } : Room).slots) := by
  refine MetFree.of_bodySF (plainFor_of_name own_pn1) hisR ?_
  intro p e s m args below meth c s₁ Bd hml0 hP hK
  obtain ⟨rfl, hZ, hh⟩ := hP
  have hx := Bd.exec
  have hby := Bd.bytes
  have hml : c.maxLocals = 4 := hml0
  have hown : s.vm.findClass "com/example/path_acl_check/pathaclcheck/AclRecord" = some m.cls := findClass_of_methodNamed Bd.named
  have hnm := (name_of_methodNamed Bd.named Bd.method).1
  have X0 : Stand p l e ({ frames := 0, cells := 0, slots := 0, locals := 0 } : Room) s m #[(.ref a1), (.ref a2)] below meth c s₁ [] 0 0 := Stand.of_body Bd
  have e0 : s₁.heap = h0 := by rw [← hh, Bd.state]; rfl
  have N0 := Fr.nil n0
  have K0 : Keep h0 h0 [] := Keep.refl h0 _
  have pre0 : ∀ t, Steps p.tables e below (s₁.setTop (mkF m 0 #[.val (.ref a1), .val (.ref a2), .unset, .unset] [])) t → Steps p.tables e below (s₁.setTop (entryFrame m #[(.ref a1), (.ref a2)] 4)) t := fun t k => castTop (own_ef_rm4_t m a1 a2) k
  obtain ⟨T77, X77, e77, st77⟩ := instNo X0 hx hZ hown (hw _ (List.mem_of_getElem? (i := 53) rfl)) e0 E_a2 (own_notinst (hw _ (List.mem_of_getElem? (i := 55) rfl)) (hw _ (List.mem_of_getElem? (i := 56) rfl)) (hw _ (List.mem_of_getElem? (i := 29) rfl)) (by decide) (by decide)) (g := (mkF m 1 #[.val (.ref a1), .val (.ref a2), .unset, .unset] [(.ref a2)])) rfl rfl (hb hby own_d5_1)
  obtain ⟨fs, hr, hrun, hended, hW, hsame⟩ := X77.leave (v := some (.int (0 : Int32))) (fun h => by rw [Bd.returns] at h; cases h)
  refine ⟨_, _, pre0 _ ?_, hrun, hended, _, _, rfl, ?_, ⟨_, rfl⟩, hW, hsame.mono (by decide) (by decide)⟩
  · show Steps p.tables e below (s₁.setTop (mkF m 0 #[.val (.ref a1), .val (.ref a2), .unset, .unset] [])) _
    refine XS.aloadN X0.here hx rfl (hb hby own_d5_0) rfl rfl ?_
    show Steps p.tables e below (s₁.setTop (mkF m 1 #[.val (.ref a1), .val (.ref a2), .unset, .unset] [(.ref a2)])) _
    refine st77 _ ?_
    show Steps p.tables e below (T77.setTop (mkF m 4 #[.val (.ref a1), .val (.ref a2), .unset, .unset] [(.int (0 : Int32))])) _
    refine XS.ifYes X77.here hx rfl (pc0 := 4) (pc' := 45) rfl (hb hby own_d5_4) rfl ((if0 _ _).trans (teq (by decide : ((0 : Int32) = (0 : Int32)))).1) (by decide) (by decide) ?_
    show Steps p.tables e below (T77.setTop (mkF m 45 #[.val (.ref a1), .val (.ref a2), .unset, .unset] [])) _
    refine XS.iconst X77.here hx rfl (hb hby own_d5_45) ?_
    show Steps p.tables e below (T77.setTop (mkF m 46 #[.val (.ref a1), .val (.ref a2), .unset, .unset] [(.int (0 : Int32))])) _
    refine XS.istoreN X77.here hx rfl (hb hby own_d5_46) rfl (l' := #[.val (.ref a1), .val (.ref a2), .val (.int (0 : Int32)), .unset]) rfl ?_
    show Steps p.tables e below (T77.setTop (mkF m 47 #[.val (.ref a1), .val (.ref a2), .val (.int (0 : Int32)), .unset] [])) _
    refine XS.iloadN X77.here hx rfl (hb hby own_d5_47) rfl ?_
    show Steps p.tables e below (T77.setTop (mkF m 48 #[.val (.ref a1), .val (.ref a2), .val (.int (0 : Int32)), .unset] [(.int (0 : Int32))])) _
    refine XS.ifNo X77.here hx rfl (hb hby own_d5_48) rfl ((if0 _ _).trans (teq (by decide : ((0 : Int32) = (0 : Int32)))).2) ?_
    show Steps p.tables e below (T77.setTop (mkF m 51 #[.val (.ref a1), .val (.ref a2), .val (.int (0 : Int32)), .unset] [])) _
    refine XS.aloadN X77.here hx rfl (hb hby own_d5_51) rfl rfl ?_
    show Steps p.tables e below (T77.setTop (mkF m 52 #[.val (.ref a1), .val (.ref a2), .val (.int (0 : Int32)), .unset] [(.ref a2)])) _
    refine XS.aloadN X77.here hx rfl (hb hby own_d5_52) rfl rfl ?_
    show Steps p.tables e below (T77.setTop (mkF m 53 #[.val (.ref a1), .val (.ref a2), .val (.int (0 : Int32)), .unset] [(.ref a1), (.ref a2)])) _
    refine Jvm.RoadKit.acmp (g := (mkF m 53 #[.val (.ref a1), .val (.ref a2), .val (.int (0 : Int32)), .unset] [(.ref a1), (.ref a2)])) X77 hx rfl rfl rfl (pc0 := 53) (pc' := 60) (same := false) rfl (hb hby own_d5_53) rfl (decide_eq_false fun q => ne_a2_a1 (Value.ref.inj q)) (by decide) (by decide) ?_
    show Steps p.tables e below (T77.setTop (mkF m 60 #[.val (.ref a1), .val (.ref a2), .val (.int (0 : Int32)), .unset] [])) _
    refine XS.iconst X77.here hx rfl (hb hby own_d5_60) ?_
    show Steps p.tables e below (T77.setTop (mkF m 61 #[.val (.ref a1), .val (.ref a2), .val (.int (0 : Int32)), .unset] [(.int (0 : Int32))])) _
    exact retN X77 hx (t := .boolean) Bd.returns (by simp) (hb hby own_d5_61) hr
  · show Q4_t Z a1 a2 h0 n0 _ T77.heap _
    rw [e77]
    exact ⟨rfl, N0, rfl⟩
theorem own_d5_7 : decode prog_14_method_12_code 7 = .ok (.aload_n 1, 1) := by decide +kernel
theorem own_d5_8 : decode prog_14_method_12_code 8 = .ok (.checkcast 8, 3) := by decide +kernel
theorem own_d5_11 : decode prog_14_method_12_code 11 = .ok (.astore_n 3, 1) := by decide +kernel
theorem own_d5_12 : decode prog_14_method_12_code 12 = .ok (.aload_n 0, 1) := by decide +kernel
theorem own_d5_13 : decode prog_14_method_12_code 13 = .ok (.getfield 7, 3) := by decide +kernel
theorem own_d5_16 : decode prog_14_method_12_code 16 = .ok (.ifnull 29, 3) := by decide +kernel
theorem own_d5_19 : decode prog_14_method_12_code 19 = .ok (.aload_n 3, 1) := by decide +kernel
theorem own_d5_20 : decode prog_14_method_12_code 20 = .ok (.getfield 7, 3) := by decide +kernel
theorem own_d5_23 : decode prog_14_method_12_code 23 = .ok (.aload_n 0, 1) := by decide +kernel
theorem own_d5_24 : decode prog_14_method_12_code 24 = .ok (.getfield 7, 3) := by decide +kernel
theorem own_d5_27 : decode prog_14_method_12_code 27 = .ok (.if_acmp .ne 18, 3) := by decide +kernel
theorem own_d5_30 : decode prog_14_method_12_code 30 = .ok (.aload_n 3, 1) := by decide +kernel
theorem own_d5_31 : decode prog_14_method_12_code 31 = .ok (.getfield 13, 3) := by decide +kernel
theorem own_d5_34 : decode prog_14_method_12_code 34 = .ok (.aload_n 0, 1) := by decide +kernel
theorem own_d5_35 : decode prog_14_method_12_code 35 = .ok (.getfield 13, 3) := by decide +kernel
theorem own_d5_38 : decode prog_14_method_12_code 38 = .ok (.if_icmp .ne 7, 3) := by decide +kernel
theorem own_d5_41 : decode prog_14_method_12_code 41 = .ok (.iconst 1, 1) := by decide +kernel
theorem own_d5_42 : decode prog_14_method_12_code 42 = .ok (.goto 4, 3) := by decide +kernel
theorem own_d5_56 : decode prog_14_method_12_code 56 = .ok (.iconst 1, 1) := by decide +kernel
theorem own_d5_57 : decode prog_14_method_12_code 57 = .ok (.goto 4, 3) := by decide +kernel
theorem own_ef_rm4_s (m : MethodId) (a1 : Addr) : entryFrame m #[(.ref a1), (.ref a1)] 4 = mkF m 0 #[.val (.ref a1), .val (.ref a1), .unset, .unset] [] := by first | (simp [entryFrame, mkF, argsToLocals, Value.category]; done) | rfl
def Q4_s (Z : State) (a1 : Addr) (t1 : Addr) (w1 : Int32) (h0 : Heap) (n0 : Nat) (v : Option Value) (h : Heap) (L : List Loc) : Prop := v = some (.int (1 : Int32)) ∧ Fr n0 L ∧ h = h0
set_option maxRecDepth 65536 in
set_option maxHeartbeats 40000000 in
theorem rm4_s (l : Launch) (Z : State) (a0 : Array Value) (hw : ∀ d ∈ tables_1, d.before a0 Z = true) (ws : List Jvm.Cond) (a1 : Addr) (t1 : Addr) (w1 : Int32) (h0 : Heap) (n0 : Nat) (Z0 : n0 ≤ h0.size) (E_a1 : Exa Z h0 a1 "com/example/path_acl_check/pathaclcheck/AclRecord") (F_a1_table : Fld Z h0 a1 "com/example/path_acl_check/pathaclcheck/AclRecord" "table" "Lcom/example/path_acl_check/pathaclcheck/RecordTable;" (.ref t1)) (F_a1_record : Fld Z h0 a1 "com/example/path_acl_check/pathaclcheck/AclRecord" "record" "I" (.int w1)) :
    MetFree l (⟨"com/example/path_acl_check/pathaclcheck/AclRecord", "equals", "(Ljava/lang/Object;)Z"⟩ : MethodName) (head1 (Jvm.Cond.code (⟨"com/example/path_acl_check/pathaclcheck/AclRecord", "equals", "(Ljava/lang/Object;)Z"⟩ : MethodName) prog_14_method_12_code 4 (some .boolean) :: ws) ({ frames := 0, cells := 0, slots := 0, locals := 0 } : Room)) (fun a U => a = #[(.ref a1), (.ref a1)] ∧ Z.Warmed39 U.vm ∧ U.heap = h0) (fun _ _ _ _ _ => True) (fun _ U o U' => ∃ v L, o = .returned v ∧ Q4_s Z a1 t1 w1 h0 n0 v U'.heap L ∧ FrameEnd U o U' L ({ frames := 0, cells := 0, slots := 0, locals := 0 } : Room).cells ({ frames := 0, cells := 0, slots := 0, locals := 0 } : Room).slots) := by
  refine MetFree.of_bodySF (plainFor_of_name own_pn1) hisR ?_
  intro p e s m args below meth c s₁ Bd hml0 hP hK
  obtain ⟨rfl, hZ, hh⟩ := hP
  have hx := Bd.exec
  have hby := Bd.bytes
  have hml : c.maxLocals = 4 := hml0
  have hown : s.vm.findClass "com/example/path_acl_check/pathaclcheck/AclRecord" = some m.cls := findClass_of_methodNamed Bd.named
  have hnm := (name_of_methodNamed Bd.named Bd.method).1
  have X0 : Stand p l e ({ frames := 0, cells := 0, slots := 0, locals := 0 } : Room) s m #[(.ref a1), (.ref a1)] below meth c s₁ [] 0 0 := Stand.of_body Bd
  have e0 : s₁.heap = h0 := by rw [← hh, Bd.state]; rfl
  have N0 := Fr.nil n0
  have K0 : Keep h0 h0 [] := Keep.refl h0 _
  have pre0 : ∀ t, Steps p.tables e below (s₁.setTop (mkF m 0 #[.val (.ref a1), .val (.ref a1), .unset, .unset] [])) t → Steps p.tables e below (s₁.setTop (entryFrame m #[(.ref a1), (.ref a1)] 4)) t := fun t k => castTop (own_ef_rm4_s m a1) k
  obtain ⟨T78, X78, e78, st78⟩ := instY X0 hx hZ hown (hw _ (List.mem_of_getElem? (i := 53) rfl)) e0 (Ins.self E_a1) (g := (mkF m 1 #[.val (.ref a1), .val (.ref a1), .unset, .unset] [(.ref a1)])) rfl rfl (hb hby own_d5_1)
  obtain ⟨T79, X79, e79, st79⟩ := castY X78 hx hZ hown (hw _ (List.mem_of_getElem? (i := 53) rfl)) e78 (Ins.self E_a1) (g := (mkF m 8 #[.val (.ref a1), .val (.ref a1), .unset, .unset] [(.ref a1)])) rfl rfl (hb hby own_d5_8)
  obtain ⟨T80, X80, e80, st80⟩ := getF X79 hx hZ hown (host := "") (Or.inl (hw _ (List.mem_of_getElem? (i := 35) rfl))) Via.refl e79 F_a1_table (g := (mkF m 13 #[.val (.ref a1), .val (.ref a1), .unset, .val (.ref a1)] [(.ref a1)])) rfl rfl (hb hby own_d5_13)
  obtain ⟨T81, X81, e81, st81⟩ := getF X80 hx hZ hown (host := "") (Or.inl (hw _ (List.mem_of_getElem? (i := 35) rfl))) Via.refl e80 F_a1_table (g := (mkF m 20 #[.val (.ref a1), .val (.ref a1), .unset, .val (.ref a1)] [(.ref a1)])) rfl rfl (hb hby own_d5_20)
  obtain ⟨T82, X82, e82, st82⟩ := getF X81 hx hZ hown (host := "") (Or.inl (hw _ (List.mem_of_getElem? (i := 35) rfl))) Via.refl e81 F_a1_table (g := (mkF m 24 #[.val (.ref a1), .val (.ref a1), .unset, .val (.ref a1)] [(.ref a1), (.ref t1)])) rfl rfl (hb hby own_d5_24)
  obtain ⟨T83, X83, e83, st83⟩ := getF X82 hx hZ hown (host := "") (Or.inl (hw _ (List.mem_of_getElem? (i := 37) rfl))) Via.refl e82 F_a1_record (g := (mkF m 31 #[.val (.ref a1), .val (.ref a1), .unset, .val (.ref a1)] [(.ref a1)])) rfl rfl (hb hby own_d5_31)
  obtain ⟨T84, X84, e84, st84⟩ := getF X83 hx hZ hown (host := "") (Or.inl (hw _ (List.mem_of_getElem? (i := 37) rfl))) Via.refl e83 F_a1_record (g := (mkF m 35 #[.val (.ref a1), .val (.ref a1), .unset, .val (.ref a1)] [(.ref a1), (.int w1)])) rfl rfl (hb hby own_d5_35)
  obtain ⟨fs, hr, hrun, hended, hW, hsame⟩ := X84.leave (v := some (.int (1 : Int32))) (fun h => by rw [Bd.returns] at h; cases h)
  refine ⟨_, _, pre0 _ ?_, hrun, hended, _, _, rfl, ?_, ⟨_, rfl⟩, hW, hsame.mono (by decide) (by decide)⟩
  · show Steps p.tables e below (s₁.setTop (mkF m 0 #[.val (.ref a1), .val (.ref a1), .unset, .unset] [])) _
    refine XS.aloadN X0.here hx rfl (hb hby own_d5_0) rfl rfl ?_
    show Steps p.tables e below (s₁.setTop (mkF m 1 #[.val (.ref a1), .val (.ref a1), .unset, .unset] [(.ref a1)])) _
    refine st78 _ ?_
    show Steps p.tables e below (T78.setTop (mkF m 4 #[.val (.ref a1), .val (.ref a1), .unset, .unset] [(.int (1 : Int32))])) _
    refine XS.ifNo X78.here hx rfl (hb hby own_d5_4) rfl ((if0 _ _).trans (feq (by decide : ¬ ((1 : Int32) = (0 : Int32)))).1) ?_
    show Steps p.tables e below (T78.setTop (mkF m 7 #[.val (.ref a1), .val (.ref a1), .unset, .unset] [])) _
    refine XS.aloadN X78.here hx rfl (hb hby own_d5_7) rfl rfl ?_
    show Steps p.tables e below (T78.setTop (mkF m 8 #[.val (.ref a1), .val (.ref a1), .unset, .unset] [(.ref a1)])) _
    refine st79 _ ?_
    show Steps p.tables e below (T79.setTop (mkF m 11 #[.val (.ref a1), .val (.ref a1), .unset, .unset] [(.ref a1)])) _
    refine XS.astoreN X79.here hx rfl (hb hby own_d5_11) rfl rfl (l' := #[.val (.ref a1), .val (.ref a1), .unset, .val (.ref a1)]) rfl ?_
    show Steps p.tables e below (T79.setTop (mkF m 12 #[.val (.ref a1), .val (.ref a1), .unset, .val (.ref a1)] [])) _
    refine XS.aloadN X79.here hx rfl (hb hby own_d5_12) rfl rfl ?_
    show Steps p.tables e below (T79.setTop (mkF m 13 #[.val (.ref a1), .val (.ref a1), .unset, .val (.ref a1)] [(.ref a1)])) _
    refine st80 _ ?_
    show Steps p.tables e below (T80.setTop (mkF m 16 #[.val (.ref a1), .val (.ref a1), .unset, .val (.ref a1)] [(.ref t1)])) _
    refine XS.ifnullNo X80.here hx rfl (hb hby own_d5_16) rfl ?_
    show Steps p.tables e below (T80.setTop (mkF m 19 #[.val (.ref a1), .val (.ref a1), .unset, .val (.ref a1)] [])) _
    refine XS.aloadN X80.here hx rfl (hb hby own_d5_19) rfl rfl ?_
    show Steps p.tables e below (T80.setTop (mkF m 20 #[.val (.ref a1), .val (.ref a1), .unset, .val (.ref a1)] [(.ref a1)])) _
    refine st81 _ ?_
    show Steps p.tables e below (T81.setTop (mkF m 23 #[.val (.ref a1), .val (.ref a1), .unset, .val (.ref a1)] [(.ref t1)])) _
    refine XS.aloadN X81.here hx rfl (hb hby own_d5_23) rfl rfl ?_
    show Steps p.tables e below (T81.setTop (mkF m 24 #[.val (.ref a1), .val (.ref a1), .unset, .val (.ref a1)] [(.ref a1), (.ref t1)])) _
    refine st82 _ ?_
    show Steps p.tables e below (T82.setTop (mkF m 27 #[.val (.ref a1), .val (.ref a1), .unset, .val (.ref a1)] [(.ref t1), (.ref t1)])) _
    refine Jvm.RoadKit.acmp (g := (mkF m 27 #[.val (.ref a1), .val (.ref a1), .unset, .val (.ref a1)] [(.ref t1), (.ref t1)])) X82 hx rfl rfl rfl (pc0 := 27) (pc' := 30) (same := true) rfl (hb hby own_d5_27) rfl (decide_eq_true rfl) (by decide) (by decide) ?_
    show Steps p.tables e below (T82.setTop (mkF m 30 #[.val (.ref a1), .val (.ref a1), .unset, .val (.ref a1)] [])) _
    refine XS.aloadN X82.here hx rfl (hb hby own_d5_30) rfl rfl ?_
    show Steps p.tables e below (T82.setTop (mkF m 31 #[.val (.ref a1), .val (.ref a1), .unset, .val (.ref a1)] [(.ref a1)])) _
    refine st83 _ ?_
    show Steps p.tables e below (T83.setTop (mkF m 34 #[.val (.ref a1), .val (.ref a1), .unset, .val (.ref a1)] [(.int w1)])) _
    refine XS.aloadN X83.here hx rfl (hb hby own_d5_34) rfl rfl ?_
    show Steps p.tables e below (T83.setTop (mkF m 35 #[.val (.ref a1), .val (.ref a1), .unset, .val (.ref a1)] [(.ref a1), (.int w1)])) _
    refine st84 _ ?_
    show Steps p.tables e below (T84.setTop (mkF m 38 #[.val (.ref a1), .val (.ref a1), .unset, .val (.ref a1)] [(.int w1), (.int w1)])) _
    refine XS.icmpNo X84.here hx rfl (hb hby own_d5_38) rfl (teq (rfl : w1 = w1)).2 ?_
    show Steps p.tables e below (T84.setTop (mkF m 41 #[.val (.ref a1), .val (.ref a1), .unset, .val (.ref a1)] [])) _
    refine XS.iconst X84.here hx rfl (hb hby own_d5_41) ?_
    show Steps p.tables e below (T84.setTop (mkF m 42 #[.val (.ref a1), .val (.ref a1), .unset, .val (.ref a1)] [(.int (1 : Int32))])) _
    refine XS.goto X84.here hx rfl (pc0 := 42) (pc' := 46) rfl (hb hby own_d5_42) (by decide) (by decide) ?_
    show Steps p.tables e below (T84.setTop (mkF m 46 #[.val (.ref a1), .val (.ref a1), .unset, .val (.ref a1)] [(.int (1 : Int32))])) _
    refine XS.istoreN X84.here hx rfl (hb hby own_d5_46) rfl (l' := #[.val (.ref a1), .val (.ref a1), .val (.int (1 : Int32)), .val (.ref a1)]) rfl ?_
    show Steps p.tables e below (T84.setTop (mkF m 47 #[.val (.ref a1), .val (.ref a1), .val (.int (1 : Int32)), .val (.ref a1)] [])) _
    refine XS.iloadN X84.here hx rfl (hb hby own_d5_47) rfl ?_
    show Steps p.tables e below (T84.setTop (mkF m 48 #[.val (.ref a1), .val (.ref a1), .val (.int (1 : Int32)), .val (.ref a1)] [(.int (1 : Int32))])) _
    refine XS.ifYes X84.here hx rfl (pc0 := 48) (pc' := 56) rfl (hb hby own_d5_48) rfl ((if0 _ _).trans (feq (by decide : ¬ ((1 : Int32) = (0 : Int32)))).2) (by decide) (by decide) ?_
    show Steps p.tables e below (T84.setTop (mkF m 56 #[.val (.ref a1), .val (.ref a1), .val (.int (1 : Int32)), .val (.ref a1)] [])) _
    refine XS.iconst X84.here hx rfl (hb hby own_d5_56) ?_
    show Steps p.tables e below (T84.setTop (mkF m 57 #[.val (.ref a1), .val (.ref a1), .val (.int (1 : Int32)), .val (.ref a1)] [(.int (1 : Int32))])) _
    refine XS.goto X84.here hx rfl (pc0 := 57) (pc' := 61) rfl (hb hby own_d5_57) (by decide) (by decide) ?_
    show Steps p.tables e below (T84.setTop (mkF m 61 #[.val (.ref a1), .val (.ref a1), .val (.int (1 : Int32)), .val (.ref a1)] [(.int (1 : Int32))])) _
    exact retN X84 hx (t := .boolean) Bd.returns (by simp) (hb hby own_d5_61) hr
  · show Q4_s Z a1 t1 w1 h0 n0 _ T84.heap _
    rw [e84]
    exact ⟨rfl, N0, rfl⟩
def own_f_rm4_e (w1 : Int32) (w2 : Int32) : Int32 := if w2 = w1 then (1 : Int32) else (0 : Int32)
theorem own_ef_rm4_e (m : MethodId) (a1 : Addr) (a2 : Addr) : entryFrame m #[(.ref a1), (.ref a2)] 4 = mkF m 0 #[.val (.ref a1), .val (.ref a2), .unset, .unset] [] := by first | (simp [entryFrame, mkF, argsToLocals, Value.category]; done) | rfl
def Q4_e (Z : State) (a1 : Addr) (a2 : Addr) (t1 : Addr) (w1 : Int32) (w2 : Int32) (h0 : Heap) (n0 : Nat) (v : Option Value) (h : Heap) (L : List Loc) : Prop := v = some (.int (own_f_rm4_e w1 w2)) ∧ Fr n0 L ∧ h = h0
set_option maxRecDepth 65536 in
set_option maxHeartbeats 40000000 in
theorem rm4_e (l : Launch) (Z : State) (a0 : Array Value) (hw : ∀ d ∈ tables_1, d.before a0 Z = true) (ws : List Jvm.Cond) (a1 : Addr) (a2 : Addr) (t1 : Addr) (w1 : Int32) (w2 : Int32) (h0 : Heap) (n0 : Nat) (Z0 : n0 ≤ h0.size) (E_a1 : Exa Z h0 a1 "com/example/path_acl_check/pathaclcheck/AclRecord") (F_a1_table : Fld Z h0 a1 "com/example/path_acl_check/pathaclcheck/AclRecord" "table" "Lcom/example/path_acl_check/pathaclcheck/RecordTable;" (.ref t1)) (F_a1_record : Fld Z h0 a1 "com/example/path_acl_check/pathaclcheck/AclRecord" "record" "I" (.int w1)) (E_a2 : Exa Z h0 a2 "com/example/path_acl_check/pathaclcheck/AclRecord") (F_a2_table : Fld Z h0 a2 "com/example/path_acl_check/pathaclcheck/AclRecord" "table" "Lcom/example/path_acl_check/pathaclcheck/RecordTable;" (.ref t1)) (F_a2_record : Fld Z h0 a2 "com/example/path_acl_check/pathaclcheck/AclRecord" "record" "I" (.int w2)) (ne_a2_a1 : a2 ≠ a1) :
    MetFree l (⟨"com/example/path_acl_check/pathaclcheck/AclRecord", "equals", "(Ljava/lang/Object;)Z"⟩ : MethodName) (head1 (Jvm.Cond.code (⟨"com/example/path_acl_check/pathaclcheck/AclRecord", "equals", "(Ljava/lang/Object;)Z"⟩ : MethodName) prog_14_method_12_code 4 (some .boolean) :: ws) ({ frames := 0, cells := 0, slots := 0, locals := 0 } : Room)) (fun a U => a = #[(.ref a1), (.ref a2)] ∧ Z.Warmed39 U.vm ∧ U.heap = h0) (fun _ _ _ _ _ => True) (fun _ U o U' => ∃ v L, o = .returned v ∧ Q4_e Z a1 a2 t1 w1 w2 h0 n0 v U'.heap L ∧ FrameEnd U o U' L ({ frames := 0, cells := 0, slots := 0, locals := 0 } : Room).cells ({ frames := 0, cells := 0, slots := 0, locals := 0 } : Room).slots) := by
  refine MetFree.of_bodySF (plainFor_of_name own_pn1) hisR ?_
  intro p e s m args below meth c s₁ Bd hml0 hP hK
  obtain ⟨rfl, hZ, hh⟩ := hP
  have hx := Bd.exec
  have hby := Bd.bytes
  have hml : c.maxLocals = 4 := hml0
  have hown : s.vm.findClass "com/example/path_acl_check/pathaclcheck/AclRecord" = some m.cls := findClass_of_methodNamed Bd.named
  have hnm := (name_of_methodNamed Bd.named Bd.method).1
  have X0 : Stand p l e ({ frames := 0, cells := 0, slots := 0, locals := 0 } : Room) s m #[(.ref a1), (.ref a2)] below meth c s₁ [] 0 0 := Stand.of_body Bd
  have e0 : s₁.heap = h0 := by rw [← hh, Bd.state]; rfl
  have N0 := Fr.nil n0
  have K0 : Keep h0 h0 [] := Keep.refl h0 _
  have pre0 : ∀ t, Steps p.tables e below (s₁.setTop (mkF m 0 #[.val (.ref a1), .val (.ref a2), .unset, .unset] [])) t → Steps p.tables e below (s₁.setTop (entryFrame m #[(.ref a1), (.ref a2)] 4)) t := fun t k => castTop (own_ef_rm4_e m a1 a2) k
  obtain ⟨T93, X93, e93, st93⟩ := instY X0 hx hZ hown (hw _ (List.mem_of_getElem? (i := 53) rfl)) e0 (Ins.self E_a2) (g := (mkF m 1 #[.val (.ref a1), .val (.ref a2), .unset, .unset] [(.ref a2)])) rfl rfl (hb hby own_d5_1)
  obtain ⟨T94, X94, e94, st94⟩ := castY X93 hx hZ hown (hw _ (List.mem_of_getElem? (i := 53) rfl)) e93 (Ins.self E_a2) (g := (mkF m 8 #[.val (.ref a1), .val (.ref a2), .unset, .unset] [(.ref a2)])) rfl rfl (hb hby own_d5_8)
  obtain ⟨T95, X95, e95, st95⟩ := getF X94 hx hZ hown (host := "") (Or.inl (hw _ (List.mem_of_getElem? (i := 35) rfl))) Via.refl e94 F_a1_table (g := (mkF m 13 #[.val (.ref a1), .val (.ref a2), .unset, .val (.ref a2)] [(.ref a1)])) rfl rfl (hb hby own_d5_13)
  obtain ⟨T96, X96, e96, st96⟩ := getF X95 hx hZ hown (host := "") (Or.inl (hw _ (List.mem_of_getElem? (i := 35) rfl))) Via.refl e95 F_a2_table (g := (mkF m 20 #[.val (.ref a1), .val (.ref a2), .unset, .val (.ref a2)] [(.ref a2)])) rfl rfl (hb hby own_d5_20)
  obtain ⟨T97, X97, e97, st97⟩ := getF X96 hx hZ hown (host := "") (Or.inl (hw _ (List.mem_of_getElem? (i := 35) rfl))) Via.refl e96 F_a1_table (g := (mkF m 24 #[.val (.ref a1), .val (.ref a2), .unset, .val (.ref a2)] [(.ref a1), (.ref t1)])) rfl rfl (hb hby own_d5_24)
  obtain ⟨T98, X98, e98, st98⟩ := getF X97 hx hZ hown (host := "") (Or.inl (hw _ (List.mem_of_getElem? (i := 37) rfl))) Via.refl e97 F_a2_record (g := (mkF m 31 #[.val (.ref a1), .val (.ref a2), .unset, .val (.ref a2)] [(.ref a2)])) rfl rfl (hb hby own_d5_31)
  obtain ⟨T99, X99, e99, st99⟩ := getF X98 hx hZ hown (host := "") (Or.inl (hw _ (List.mem_of_getElem? (i := 37) rfl))) Via.refl e98 F_a1_record (g := (mkF m 35 #[.val (.ref a1), .val (.ref a2), .unset, .val (.ref a2)] [(.ref a1), (.int w2)])) rfl rfl (hb hby own_d5_35)
  have pre100 : ∀ t, Steps p.tables e below (T99.setTop (mkF m 38 #[.val (.ref a1), .val (.ref a2), .unset, .val (.ref a2)] [(.int w1), (.int w2)])) t → Steps p.tables e below (s₁.setTop (entryFrame m #[(.ref a1), (.ref a2)] 4)) t := fun t k => by
    refine pre0 _ ?_
    show Steps p.tables e below (s₁.setTop (mkF m 0 #[.val (.ref a1), .val (.ref a2), .unset, .unset] [])) _
    refine XS.aloadN X0.here hx rfl (hb hby own_d5_0) rfl rfl ?_
    show Steps p.tables e below (s₁.setTop (mkF m 1 #[.val (.ref a1), .val (.ref a2), .unset, .unset] [(.ref a2)])) _
    refine st93 _ ?_
    show Steps p.tables e below (T93.setTop (mkF m 4 #[.val (.ref a1), .val (.ref a2), .unset, .unset] [(.int (1 : Int32))])) _
    refine XS.ifNo X93.here hx rfl (hb hby own_d5_4) rfl ((if0 _ _).trans (feq (by decide : ¬ ((1 : Int32) = (0 : Int32)))).1) ?_
    show Steps p.tables e below (T93.setTop (mkF m 7 #[.val (.ref a1), .val (.ref a2), .unset, .unset] [])) _
    refine XS.aloadN X93.here hx rfl (hb hby own_d5_7) rfl rfl ?_
    show Steps p.tables e below (T93.setTop (mkF m 8 #[.val (.ref a1), .val (.ref a2), .unset, .unset] [(.ref a2)])) _
    refine st94 _ ?_
    show Steps p.tables e below (T94.setTop (mkF m 11 #[.val (.ref a1), .val (.ref a2), .unset, .unset] [(.ref a2)])) _
    refine XS.astoreN X94.here hx rfl (hb hby own_d5_11) rfl rfl (l' := #[.val (.ref a1), .val (.ref a2), .unset, .val (.ref a2)]) rfl ?_
    show Steps p.tables e below (T94.setTop (mkF m 12 #[.val (.ref a1), .val (.ref a2), .unset, .val (.ref a2)] [])) _
    refine XS.aloadN X94.here hx rfl (hb hby own_d5_12) rfl rfl ?_
    show Steps p.tables e below (T94.setTop (mkF m 13 #[.val (.ref a1), .val (.ref a2), .unset, .val (.ref a2)] [(.ref a1)])) _
    refine st95 _ ?_
    show Steps p.tables e below (T95.setTop (mkF m 16 #[.val (.ref a1), .val (.ref a2), .unset, .val (.ref a2)] [(.ref t1)])) _
    refine XS.ifnullNo X95.here hx rfl (hb hby own_d5_16) rfl ?_
    show Steps p.tables e below (T95.setTop (mkF m 19 #[.val (.ref a1), .val (.ref a2), .unset, .val (.ref a2)] [])) _
    refine XS.aloadN X95.here hx rfl (hb hby own_d5_19) rfl rfl ?_
    show Steps p.tables e below (T95.setTop (mkF m 20 #[.val (.ref a1), .val (.ref a2), .unset, .val (.ref a2)] [(.ref a2)])) _
    refine st96 _ ?_
    show Steps p.tables e below (T96.setTop (mkF m 23 #[.val (.ref a1), .val (.ref a2), .unset, .val (.ref a2)] [(.ref t1)])) _
    refine XS.aloadN X96.here hx rfl (hb hby own_d5_23) rfl rfl ?_
    show Steps p.tables e below (T96.setTop (mkF m 24 #[.val (.ref a1), .val (.ref a2), .unset, .val (.ref a2)] [(.ref a1), (.ref t1)])) _
    refine st97 _ ?_
    show Steps p.tables e below (T97.setTop (mkF m 27 #[.val (.ref a1), .val (.ref a2), .unset, .val (.ref a2)] [(.ref t1), (.ref t1)])) _
    refine Jvm.RoadKit.acmp (g := (mkF m 27 #[.val (.ref a1), .val (.ref a2), .unset, .val (.ref a2)] [(.ref t1), (.ref t1)])) X97 hx rfl rfl rfl (pc0 := 27) (pc' := 30) (same := true) rfl (hb hby own_d5_27) rfl (decide_eq_true rfl) (by decide) (by decide) ?_
    show Steps p.tables e below (T97.setTop (mkF m 30 #[.val (.ref a1), .val (.ref a2), .unset, .val (.ref a2)] [])) _
    refine XS.aloadN X97.here hx rfl (hb hby own_d5_30) rfl rfl ?_
    show Steps p.tables e below (T97.setTop (mkF m 31 #[.val (.ref a1), .val (.ref a2), .unset, .val (.ref a2)] [(.ref a2)])) _
    refine st98 _ ?_
    show Steps p.tables e below (T98.setTop (mkF m 34 #[.val (.ref a1), .val (.ref a2), .unset, .val (.ref a2)] [(.int w2)])) _
    refine XS.aloadN X98.here hx rfl (hb hby own_d5_34) rfl rfl ?_
    show Steps p.tables e below (T98.setTop (mkF m 35 #[.val (.ref a1), .val (.ref a2), .unset, .val (.ref a2)] [(.ref a1), (.int w2)])) _
    refine st99 _ ?_
    exact k
  by_cases hc38 : w2 = w1
  · obtain ⟨fs, hr, hrun, hended, hW, hsame⟩ := X99.leave (v := some (.int (1 : Int32))) (fun h => by rw [Bd.returns] at h; cases h)
    refine ⟨_, _, pre100 _ ?_, hrun, hended, _, _, rfl, ?_, ⟨_, rfl⟩, hW, hsame.mono (by decide) (by decide)⟩
    · show Steps p.tables e below (T99.setTop (mkF m 38 #[.val (.ref a1), .val (.ref a2), .unset, .val (.ref a2)] [(.int w1), (.int w2)])) _
      refine XS.icmpNo X99.here hx rfl (hb hby own_d5_38) rfl (teq hc38).2 ?_
      show Steps p.tables e below (T99.setTop (mkF m 41 #[.val (.ref a1), .val (.ref a2), .unset, .val (.ref a2)] [])) _
      refine XS.iconst X99.here hx rfl (hb hby own_d5_41) ?_
      show Steps p.tables e below (T99.setTop (mkF m 42 #[.val (.ref a1), .val (.ref a2), .unset, .val (.ref a2)] [(.int (1 : Int32))])) _
      refine XS.goto X99.here hx rfl (pc0 := 42) (pc' := 46) rfl (hb hby own_d5_42) (by decide) (by decide) ?_
      show Steps p.tables e below (T99.setTop (mkF m 46 #[.val (.ref a1), .val (.ref a2), .unset, .val (.ref a2)] [(.int (1 : Int32))])) _
      refine XS.istoreN X99.here hx rfl (hb hby own_d5_46) rfl (l' := #[.val (.ref a1), .val (.ref a2), .val (.int (1 : Int32)), .val (.ref a2)]) rfl ?_
      show Steps p.tables e below (T99.setTop (mkF m 47 #[.val (.ref a1), .val (.ref a2), .val (.int (1 : Int32)), .val (.ref a2)] [])) _
      refine XS.iloadN X99.here hx rfl (hb hby own_d5_47) rfl ?_
      show Steps p.tables e below (T99.setTop (mkF m 48 #[.val (.ref a1), .val (.ref a2), .val (.int (1 : Int32)), .val (.ref a2)] [(.int (1 : Int32))])) _
      refine XS.ifYes X99.here hx rfl (pc0 := 48) (pc' := 56) rfl (hb hby own_d5_48) rfl ((if0 _ _).trans (feq (by decide : ¬ ((1 : Int32) = (0 : Int32)))).2) (by decide) (by decide) ?_
      show Steps p.tables e below (T99.setTop (mkF m 56 #[.val (.ref a1), .val (.ref a2), .val (.int (1 : Int32)), .val (.ref a2)] [])) _
      refine XS.iconst X99.here hx rfl (hb hby own_d5_56) ?_
      show Steps p.tables e below (T99.setTop (mkF m 57 #[.val (.ref a1), .val (.ref a2), .val (.int (1 : Int32)), .val (.ref a2)] [(.int (1 : Int32))])) _
      refine XS.goto X99.here hx rfl (pc0 := 57) (pc' := 61) rfl (hb hby own_d5_57) (by decide) (by decide) ?_
      show Steps p.tables e below (T99.setTop (mkF m 61 #[.val (.ref a1), .val (.ref a2), .val (.int (1 : Int32)), .val (.ref a2)] [(.int (1 : Int32))])) _
      exact retN X99 hx (t := .boolean) Bd.returns (by simp) (hb hby own_d5_61) hr
    · show Q4_e Z a1 a2 t1 w1 w2 h0 n0 _ T99.heap _
      rw [e99]
      exact ⟨(congrArg (fun z => some (Value.int z)) (by unfold own_f_rm4_e; rw [if_pos hc38] : (1 : Int32) = (own_f_rm4_e w1 w2))), N0, rfl⟩
  · obtain ⟨fs, hr, hrun, hended, hW, hsame⟩ := X99.leave (v := some (.int (0 : Int32))) (fun h => by rw [Bd.returns] at h; cases h)
    refine ⟨_, _, pre100 _ ?_, hrun, hended, _, _, rfl, ?_, ⟨_, rfl⟩, hW, hsame.mono (by decide) (by decide)⟩
    · show Steps p.tables e below (T99.setTop (mkF m 38 #[.val (.ref a1), .val (.ref a2), .unset, .val (.ref a2)] [(.int w1), (.int w2)])) _
      refine XS.icmpYes X99.here hx rfl (pc0 := 38) (pc' := 45) rfl (hb hby own_d5_38) rfl (feq hc38).2 (by decide) (by decide) ?_
      show Steps p.tables e below (T99.setTop (mkF m 45 #[.val (.ref a1), .val (.ref a2), .unset, .val (.ref a2)] [])) _
      refine XS.iconst X99.here hx rfl (hb hby own_d5_45) ?_
      show Steps p.tables e below (T99.setTop (mkF m 46 #[.val (.ref a1), .val (.ref a2), .unset, .val (.ref a2)] [(.int (0 : Int32))])) _
      refine XS.istoreN X99.here hx rfl (hb hby own_d5_46) rfl (l' := #[.val (.ref a1), .val (.ref a2), .val (.int (0 : Int32)), .val (.ref a2)]) rfl ?_
      show Steps p.tables e below (T99.setTop (mkF m 47 #[.val (.ref a1), .val (.ref a2), .val (.int (0 : Int32)), .val (.ref a2)] [])) _
      refine XS.iloadN X99.here hx rfl (hb hby own_d5_47) rfl ?_
      show Steps p.tables e below (T99.setTop (mkF m 48 #[.val (.ref a1), .val (.ref a2), .val (.int (0 : Int32)), .val (.ref a2)] [(.int (0 : Int32))])) _
      refine XS.ifNo X99.here hx rfl (hb hby own_d5_48) rfl ((if0 _ _).trans (teq (by decide : ((0 : Int32) = (0 : Int32)))).2) ?_
      show Steps p.tables e below (T99.setTop (mkF m 51 #[.val (.ref a1), .val (.ref a2), .val (.int (0 : Int32)), .val (.ref a2)] [])) _
      refine XS.aloadN X99.here hx rfl (hb hby own_d5_51) rfl rfl ?_
      show Steps p.tables e below (T99.setTop (mkF m 52 #[.val (.ref a1), .val (.ref a2), .val (.int (0 : Int32)), .val (.ref a2)] [(.ref a2)])) _
      refine XS.aloadN X99.here hx rfl (hb hby own_d5_52) rfl rfl ?_
      show Steps p.tables e below (T99.setTop (mkF m 53 #[.val (.ref a1), .val (.ref a2), .val (.int (0 : Int32)), .val (.ref a2)] [(.ref a1), (.ref a2)])) _
      refine Jvm.RoadKit.acmp (g := (mkF m 53 #[.val (.ref a1), .val (.ref a2), .val (.int (0 : Int32)), .val (.ref a2)] [(.ref a1), (.ref a2)])) X99 hx rfl rfl rfl (pc0 := 53) (pc' := 60) (same := false) rfl (hb hby own_d5_53) rfl (decide_eq_false fun q => ne_a2_a1 (Value.ref.inj q)) (by decide) (by decide) ?_
      show Steps p.tables e below (T99.setTop (mkF m 60 #[.val (.ref a1), .val (.ref a2), .val (.int (0 : Int32)), .val (.ref a2)] [])) _
      refine XS.iconst X99.here hx rfl (hb hby own_d5_60) ?_
      show Steps p.tables e below (T99.setTop (mkF m 61 #[.val (.ref a1), .val (.ref a2), .val (.int (0 : Int32)), .val (.ref a2)] [(.int (0 : Int32))])) _
      exact retN X99 hx (t := .boolean) Bd.returns (by simp) (hb hby own_d5_61) hr
    · show Q4_e Z a1 a2 t1 w1 w2 h0 n0 _ T99.heap _
      rw [e99]
      exact ⟨(congrArg (fun z => some (Value.int z)) (by unfold own_f_rm4_e; rw [if_neg hc38] : (0 : Int32) = (own_f_rm4_e w1 w2))), N0, rfl⟩
theorem own_ef_rm4_d (m : MethodId) (a1 : Addr) (a2 : Addr) : entryFrame m #[(.ref a1), (.ref a2)] 4 = mkF m 0 #[.val (.ref a1), .val (.ref a2), .unset, .unset] [] := by first | (simp [entryFrame, mkF, argsToLocals, Value.category]; done) | rfl
def Q4_d (Z : State) (a1 : Addr) (a2 : Addr) (t1 : Addr) (t2 : Addr) (w1 : Int32) (w2 : Int32) (h0 : Heap) (n0 : Nat) (v : Option Value) (h : Heap) (L : List Loc) : Prop := v = some (.int (0 : Int32)) ∧ Fr n0 L ∧ h = h0
set_option maxRecDepth 65536 in
set_option maxHeartbeats 40000000 in
theorem rm4_d (l : Launch) (Z : State) (a0 : Array Value) (hw : ∀ d ∈ tables_1, d.before a0 Z = true) (ws : List Jvm.Cond) (a1 : Addr) (a2 : Addr) (t1 : Addr) (t2 : Addr) (w1 : Int32) (w2 : Int32) (h0 : Heap) (n0 : Nat) (Z0 : n0 ≤ h0.size) (E_a1 : Exa Z h0 a1 "com/example/path_acl_check/pathaclcheck/AclRecord") (F_a1_table : Fld Z h0 a1 "com/example/path_acl_check/pathaclcheck/AclRecord" "table" "Lcom/example/path_acl_check/pathaclcheck/RecordTable;" (.ref t1)) (F_a1_record : Fld Z h0 a1 "com/example/path_acl_check/pathaclcheck/AclRecord" "record" "I" (.int w1)) (E_a2 : Exa Z h0 a2 "com/example/path_acl_check/pathaclcheck/AclRecord") (F_a2_table : Fld Z h0 a2 "com/example/path_acl_check/pathaclcheck/AclRecord" "table" "Lcom/example/path_acl_check/pathaclcheck/RecordTable;" (.ref t2)) (F_a2_record : Fld Z h0 a2 "com/example/path_acl_check/pathaclcheck/AclRecord" "record" "I" (.int w2)) (ne_a2_a1 : a2 ≠ a1) (ne_t2_t1 : t2 ≠ t1) :
    MetFree l (⟨"com/example/path_acl_check/pathaclcheck/AclRecord", "equals", "(Ljava/lang/Object;)Z"⟩ : MethodName) (head1 (Jvm.Cond.code (⟨"com/example/path_acl_check/pathaclcheck/AclRecord", "equals", "(Ljava/lang/Object;)Z"⟩ : MethodName) prog_14_method_12_code 4 (some .boolean) :: ws) ({ frames := 0, cells := 0, slots := 0, locals := 0 } : Room)) (fun a U => a = #[(.ref a1), (.ref a2)] ∧ Z.Warmed39 U.vm ∧ U.heap = h0) (fun _ _ _ _ _ => True) (fun _ U o U' => ∃ v L, o = .returned v ∧ Q4_d Z a1 a2 t1 t2 w1 w2 h0 n0 v U'.heap L ∧ FrameEnd U o U' L ({ frames := 0, cells := 0, slots := 0, locals := 0 } : Room).cells ({ frames := 0, cells := 0, slots := 0, locals := 0 } : Room).slots) := by
  refine MetFree.of_bodySF (plainFor_of_name own_pn1) hisR ?_
  intro p e s m args below meth c s₁ Bd hml0 hP hK
  obtain ⟨rfl, hZ, hh⟩ := hP
  have hx := Bd.exec
  have hby := Bd.bytes
  have hml : c.maxLocals = 4 := hml0
  have hown : s.vm.findClass "com/example/path_acl_check/pathaclcheck/AclRecord" = some m.cls := findClass_of_methodNamed Bd.named
  have hnm := (name_of_methodNamed Bd.named Bd.method).1
  have X0 : Stand p l e ({ frames := 0, cells := 0, slots := 0, locals := 0 } : Room) s m #[(.ref a1), (.ref a2)] below meth c s₁ [] 0 0 := Stand.of_body Bd
  have e0 : s₁.heap = h0 := by rw [← hh, Bd.state]; rfl
  have N0 := Fr.nil n0
  have K0 : Keep h0 h0 [] := Keep.refl h0 _
  have pre0 : ∀ t, Steps p.tables e below (s₁.setTop (mkF m 0 #[.val (.ref a1), .val (.ref a2), .unset, .unset] [])) t → Steps p.tables e below (s₁.setTop (entryFrame m #[(.ref a1), (.ref a2)] 4)) t := fun t k => castTop (own_ef_rm4_d m a1 a2) k
  obtain ⟨T101, X101, e101, st101⟩ := instY X0 hx hZ hown (hw _ (List.mem_of_getElem? (i := 53) rfl)) e0 (Ins.self E_a2) (g := (mkF m 1 #[.val (.ref a1), .val (.ref a2), .unset, .unset] [(.ref a2)])) rfl rfl (hb hby own_d5_1)
  obtain ⟨T102, X102, e102, st102⟩ := castY X101 hx hZ hown (hw _ (List.mem_of_getElem? (i := 53) rfl)) e101 (Ins.self E_a2) (g := (mkF m 8 #[.val (.ref a1), .val (.ref a2), .unset, .unset] [(.ref a2)])) rfl rfl (hb hby own_d5_8)
  obtain ⟨T103, X103, e103, st103⟩ := getF X102 hx hZ hown (host := "") (Or.inl (hw _ (List.mem_of_getElem? (i := 35) rfl))) Via.refl e102 F_a1_table (g := (mkF m 13 #[.val (.ref a1), .val (.ref a2), .unset, .val (.ref a2)] [(.ref a1)])) rfl rfl (hb hby own_d5_13)
  obtain ⟨T104, X104, e104, st104⟩ := getF X103 hx hZ hown (host := "") (Or.inl (hw _ (List.mem_of_getElem? (i := 35) rfl))) Via.refl e103 F_a2_table (g := (mkF m 20 #[.val (.ref a1), .val (.ref a2), .unset, .val (.ref a2)] [(.ref a2)])) rfl rfl (hb hby own_d5_20)
  obtain ⟨T105, X105, e105, st105⟩ := getF X104 hx hZ hown (host := "") (Or.inl (hw _ (List.mem_of_getElem? (i := 35) rfl))) Via.refl e104 F_a1_table (g := (mkF m 24 #[.val (.ref a1), .val (.ref a2), .unset, .val (.ref a2)] [(.ref a1), (.ref t2)])) rfl rfl (hb hby own_d5_24)
  obtain ⟨fs, hr, hrun, hended, hW, hsame⟩ := X105.leave (v := some (.int (0 : Int32))) (fun h => by rw [Bd.returns] at h; cases h)
  refine ⟨_, _, pre0 _ ?_, hrun, hended, _, _, rfl, ?_, ⟨_, rfl⟩, hW, hsame.mono (by decide) (by decide)⟩
  · show Steps p.tables e below (s₁.setTop (mkF m 0 #[.val (.ref a1), .val (.ref a2), .unset, .unset] [])) _
    refine XS.aloadN X0.here hx rfl (hb hby own_d5_0) rfl rfl ?_
    show Steps p.tables e below (s₁.setTop (mkF m 1 #[.val (.ref a1), .val (.ref a2), .unset, .unset] [(.ref a2)])) _
    refine st101 _ ?_
    show Steps p.tables e below (T101.setTop (mkF m 4 #[.val (.ref a1), .val (.ref a2), .unset, .unset] [(.int (1 : Int32))])) _
    refine XS.ifNo X101.here hx rfl (hb hby own_d5_4) rfl ((if0 _ _).trans (feq (by decide : ¬ ((1 : Int32) = (0 : Int32)))).1) ?_
    show Steps p.tables e below (T101.setTop (mkF m 7 #[.val (.ref a1), .val (.ref a2), .unset, .unset] [])) _
    refine XS.aloadN X101.here hx rfl (hb hby own_d5_7) rfl rfl ?_
    show Steps p.tables e below (T101.setTop (mkF m 8 #[.val (.ref a1), .val (.ref a2), .unset, .unset] [(.ref a2)])) _
    refine st102 _ ?_
    show Steps p.tables e below (T102.setTop (mkF m 11 #[.val (.ref a1), .val (.ref a2), .unset, .unset] [(.ref a2)])) _
    refine XS.astoreN X102.here hx rfl (hb hby own_d5_11) rfl rfl (l' := #[.val (.ref a1), .val (.ref a2), .unset, .val (.ref a2)]) rfl ?_
    show Steps p.tables e below (T102.setTop (mkF m 12 #[.val (.ref a1), .val (.ref a2), .unset, .val (.ref a2)] [])) _
    refine XS.aloadN X102.here hx rfl (hb hby own_d5_12) rfl rfl ?_
    show Steps p.tables e below (T102.setTop (mkF m 13 #[.val (.ref a1), .val (.ref a2), .unset, .val (.ref a2)] [(.ref a1)])) _
    refine st103 _ ?_
    show Steps p.tables e below (T103.setTop (mkF m 16 #[.val (.ref a1), .val (.ref a2), .unset, .val (.ref a2)] [(.ref t1)])) _
    refine XS.ifnullNo X103.here hx rfl (hb hby own_d5_16) rfl ?_
    show Steps p.tables e below (T103.setTop (mkF m 19 #[.val (.ref a1), .val (.ref a2), .unset, .val (.ref a2)] [])) _
    refine XS.aloadN X103.here hx rfl (hb hby own_d5_19) rfl rfl ?_
    show Steps p.tables e below (T103.setTop (mkF m 20 #[.val (.ref a1), .val (.ref a2), .unset, .val (.ref a2)] [(.ref a2)])) _
    refine st104 _ ?_
    show Steps p.tables e below (T104.setTop (mkF m 23 #[.val (.ref a1), .val (.ref a2), .unset, .val (.ref a2)] [(.ref t2)])) _
    refine XS.aloadN X104.here hx rfl (hb hby own_d5_23) rfl rfl ?_
    show Steps p.tables e below (T104.setTop (mkF m 24 #[.val (.ref a1), .val (.ref a2), .unset, .val (.ref a2)] [(.ref a1), (.ref t2)])) _
    refine st105 _ ?_
    show Steps p.tables e below (T105.setTop (mkF m 27 #[.val (.ref a1), .val (.ref a2), .unset, .val (.ref a2)] [(.ref t1), (.ref t2)])) _
    refine Jvm.RoadKit.acmp (g := (mkF m 27 #[.val (.ref a1), .val (.ref a2), .unset, .val (.ref a2)] [(.ref t1), (.ref t2)])) X105 hx rfl rfl rfl (pc0 := 27) (pc' := 45) (same := false) rfl (hb hby own_d5_27) rfl (decide_eq_false fun q => ne_t2_t1 (Value.ref.inj q)) (by decide) (by decide) ?_
    show Steps p.tables e below (T105.setTop (mkF m 45 #[.val (.ref a1), .val (.ref a2), .unset, .val (.ref a2)] [])) _
    refine XS.iconst X105.here hx rfl (hb hby own_d5_45) ?_
    show Steps p.tables e below (T105.setTop (mkF m 46 #[.val (.ref a1), .val (.ref a2), .unset, .val (.ref a2)] [(.int (0 : Int32))])) _
    refine XS.istoreN X105.here hx rfl (hb hby own_d5_46) rfl (l' := #[.val (.ref a1), .val (.ref a2), .val (.int (0 : Int32)), .val (.ref a2)]) rfl ?_
    show Steps p.tables e below (T105.setTop (mkF m 47 #[.val (.ref a1), .val (.ref a2), .val (.int (0 : Int32)), .val (.ref a2)] [])) _
    refine XS.iloadN X105.here hx rfl (hb hby own_d5_47) rfl ?_
    show Steps p.tables e below (T105.setTop (mkF m 48 #[.val (.ref a1), .val (.ref a2), .val (.int (0 : Int32)), .val (.ref a2)] [(.int (0 : Int32))])) _
    refine XS.ifNo X105.here hx rfl (hb hby own_d5_48) rfl ((if0 _ _).trans (teq (by decide : ((0 : Int32) = (0 : Int32)))).2) ?_
    show Steps p.tables e below (T105.setTop (mkF m 51 #[.val (.ref a1), .val (.ref a2), .val (.int (0 : Int32)), .val (.ref a2)] [])) _
    refine XS.aloadN X105.here hx rfl (hb hby own_d5_51) rfl rfl ?_
    show Steps p.tables e below (T105.setTop (mkF m 52 #[.val (.ref a1), .val (.ref a2), .val (.int (0 : Int32)), .val (.ref a2)] [(.ref a2)])) _
    refine XS.aloadN X105.here hx rfl (hb hby own_d5_52) rfl rfl ?_
    show Steps p.tables e below (T105.setTop (mkF m 53 #[.val (.ref a1), .val (.ref a2), .val (.int (0 : Int32)), .val (.ref a2)] [(.ref a1), (.ref a2)])) _
    refine Jvm.RoadKit.acmp (g := (mkF m 53 #[.val (.ref a1), .val (.ref a2), .val (.int (0 : Int32)), .val (.ref a2)] [(.ref a1), (.ref a2)])) X105 hx rfl rfl rfl (pc0 := 53) (pc' := 60) (same := false) rfl (hb hby own_d5_53) rfl (decide_eq_false fun q => ne_a2_a1 (Value.ref.inj q)) (by decide) (by decide) ?_
    show Steps p.tables e below (T105.setTop (mkF m 60 #[.val (.ref a1), .val (.ref a2), .val (.int (0 : Int32)), .val (.ref a2)] [])) _
    refine XS.iconst X105.here hx rfl (hb hby own_d5_60) ?_
    show Steps p.tables e below (T105.setTop (mkF m 61 #[.val (.ref a1), .val (.ref a2), .val (.int (0 : Int32)), .val (.ref a2)] [(.int (0 : Int32))])) _
    exact retN X105 hx (t := .boolean) Bd.returns (by simp) (hb hby own_d5_61) hr
  · show Q4_d Z a1 a2 t1 t2 w1 w2 h0 n0 _ T105.heap _
    rw [e105]
    exact ⟨rfl, N0, rfl⟩
theorem own_ix (x : Int32) : ¬ (x &&& (15 : Int32)) < (0 : Int32) ∧ (x &&& (15 : Int32)) < (16 : Int32) := by
  have h1 := c_mask x 15 4 (by decide) (by decide)
  have e0 : (0 : Int32).toInt = 0 := by decide
  have e1 : (16 : Int32).toInt = 16 := by decide
  rw [Int32.lt_iff_toInt_lt, Int32.lt_iff_toInt_lt]
  omega
theorem own_pd1 : parseMethodDescriptor "()V" = some ⟨[], none⟩ := by decide +kernel
theorem own_pd2 : parseMethodDescriptor "(Lcom/example/path_acl_check/pathaclcheck/RecordTable;I)V" = some ⟨[(.object "com/example/path_acl_check/pathaclcheck/RecordTable"), .int], none⟩ := by decide +kernel
theorem own_pd3 : parseMethodDescriptor "(Ljava/lang/Object;)Z" = some ⟨[(.object "java/lang/Object")], some .boolean⟩ := by decide +kernel
theorem own_pn2 : plainName "com/example/path_acl_check/pathaclcheck/AclRecordEqualsPinLaw" = true := by first | (simp [plainName, overriddenIn]; done) | decide +kernel
theorem own_ef_rm0 (m : MethodId) (p0 : Int32) (p1 : Int32) (p2 : Int32) : entryFrame m #[(.int p0), (.int p1), (.int p2)] maxLocals = mkF m 0 #[.val (.int p0), .val (.int p1), .val (.int p2), .unset, .unset, .unset, .unset, .unset, .unset, .unset, .unset, .unset, .unset, .unset, .unset, .unset, .unset, .unset] [] := by first | (simp [entryFrame, mkF, argsToLocals, Value.category, maxLocals]; done) | rfl
def Q0 (Z : State) (p0 : Int32) (p1 : Int32) (p2 : Int32) (h0 : Heap) (n0 : Nat) (v : Option Value) (h : Heap) (L : List Loc) : Prop := v = some (.int (1 : Int32)) ∧ Fr n0 L
set_option maxRecDepth 65536 in
set_option maxHeartbeats 40000000 in
theorem rm0 (l : Launch) (Z : State) (a0 : Array Value) (hw : ∀ d ∈ tables_1, d.before a0 Z = true) (ws : List Jvm.Cond) (p0 : Int32) (p1 : Int32) (p2 : Int32) (h0 : Heap) (n0 : Nat) (Z0 : n0 ≤ h0.size) :
    MetFree l x (head1 (Jvm.Cond.code x code maxLocals ret :: ws) room_1) (fun a U => a = #[(.int p0), (.int p1), (.int p2)] ∧ Z.Warmed39 U.vm ∧ U.heap = h0) (fun _ _ _ _ _ => True) (fun _ U o U' => ∃ v L, o = .returned v ∧ Q0 Z p0 p1 p2 h0 n0 v U'.heap L ∧ FrameEnd U o U' L room_1.cells room_1.slots) := by
  refine MetFree.of_bodySF (plainFor_of_name own_pn2) hisR ?_
  intro p e s m args below meth c s₁ Bd hml0 hP hK
  obtain ⟨rfl, hZ, hh⟩ := hP
  have hx := Bd.exec
  have hby := Bd.bytes
  have hml : c.maxLocals = 18 := hml0
  have hown : s.vm.findClass "com/example/path_acl_check/pathaclcheck/AclRecordEqualsPinLaw" = some m.cls := findClass_of_methodNamed Bd.named
  have hnm := (name_of_methodNamed Bd.named Bd.method).1
  have X0 : Stand p l e room_1 s m #[(.int p0), (.int p1), (.int p2)] below meth c s₁ [] 0 0 := Stand.of_body Bd
  have e0 : s₁.heap = h0 := by rw [← hh, Bd.state]; rfl
  have N0 := Fr.nil n0
  have K0 : Keep h0 h0 [] := Keep.refl h0 _
  have pre0 : ∀ t, Steps p.tables e below (s₁.setTop (mkF m 0 #[.val (.int p0), .val (.int p1), .val (.int p2), .unset, .unset, .unset, .unset, .unset, .unset, .unset, .unset, .unset, .unset, .unset, .unset, .unset, .unset, .unset] [])) t → Steps p.tables e below (s₁.setTop (entryFrame m #[(.int p0), (.int p1), (.int p2)] maxLocals)) t := fun t k => castTop (own_ef_rm0 m p0 p1 p2) k
  have pre106 : ∀ t, Steps p.tables e below (s₁.setTop (mkF m 14 #[.val (.int p0), .val (.int p1), .val (.int p2), .val (.int (p1 &&& (15 : Int32))), .val (.int (p2 &&& (15 : Int32))), .unset, .unset, .unset, .unset, .unset, .unset, .unset, .unset, .unset, .unset, .unset, .unset, .unset] [(.int (p0 &&& (1 : Int32)))])) t → Steps p.tables e below (s₁.setTop (entryFrame m #[(.int p0), (.int p1), (.int p2)] maxLocals)) t := fun t k => by
    refine pre0 _ ?_
    show Steps p.tables e below (s₁.setTop (mkF m 0 #[.val (.int p0), .val (.int p1), .val (.int p2), .unset, .unset, .unset, .unset, .unset, .unset, .unset, .unset, .unset, .unset, .unset, .unset, .unset, .unset, .unset] [])) _
    refine XS.iloadN X0.here hx rfl (hb hby at_0) rfl ?_
    show Steps p.tables e below (s₁.setTop (mkF m 1 #[.val (.int p0), .val (.int p1), .val (.int p2), .unset, .unset, .unset, .unset, .unset, .unset, .unset, .unset, .unset, .unset, .unset, .unset, .unset, .unset, .unset] [(.int p1)])) _
    refine XS.bipush X0.here hx rfl (hb hby at_1) ?_
    show Steps p.tables e below (s₁.setTop (mkF m 3 #[.val (.int p0), .val (.int p1), .val (.int p2), .unset, .unset, .unset, .unset, .unset, .unset, .unset, .unset, .unset, .unset, .unset, .unset, .unset, .unset, .unset] [(.int (15 : Int32)), (.int p1)])) _
    refine XS.iand X0.here hx rfl (hb hby at_3) rfl ?_
    show Steps p.tables e below (s₁.setTop (mkF m 4 #[.val (.int p0), .val (.int p1), .val (.int p2), .unset, .unset, .unset, .unset, .unset, .unset, .unset, .unset, .unset, .unset, .unset, .unset, .unset, .unset, .unset] [(.int (p1 &&& (15 : Int32)))])) _
    refine XS.istoreN X0.here hx rfl (hb hby at_4) rfl (l' := #[.val (.int p0), .val (.int p1), .val (.int p2), .val (.int (p1 &&& (15 : Int32))), .unset, .unset, .unset, .unset, .unset, .unset, .unset, .unset, .unset, .unset, .unset, .unset, .unset, .unset]) rfl ?_
    show Steps p.tables e below (s₁.setTop (mkF m 5 #[.val (.int p0), .val (.int p1), .val (.int p2), .val (.int (p1 &&& (15 : Int32))), .unset, .unset, .unset, .unset, .unset, .unset, .unset, .unset, .unset, .unset, .unset, .unset, .unset, .unset] [])) _
    refine XS.iloadN X0.here hx rfl (hb hby at_5) rfl ?_
    show Steps p.tables e below (s₁.setTop (mkF m 6 #[.val (.int p0), .val (.int p1), .val (.int p2), .val (.int (p1 &&& (15 : Int32))), .unset, .unset, .unset, .unset, .unset, .unset, .unset, .unset, .unset, .unset, .unset, .unset, .unset, .unset] [(.int p2)])) _
    refine XS.bipush X0.here hx rfl (hb hby at_6) ?_
    show Steps p.tables e below (s₁.setTop (mkF m 8 #[.val (.int p0), .val (.int p1), .val (.int p2), .val (.int (p1 &&& (15 : Int32))), .unset, .unset, .unset, .unset, .unset, .unset, .unset, .unset, .unset, .unset, .unset, .unset, .unset, .unset] [(.int (15 : Int32)), (.int p2)])) _
    refine XS.iand X0.here hx rfl (hb hby at_8) rfl ?_
    show Steps p.tables e below (s₁.setTop (mkF m 9 #[.val (.int p0), .val (.int p1), .val (.int p2), .val (.int (p1 &&& (15 : Int32))), .unset, .unset, .unset, .unset, .unset, .unset, .unset, .unset, .unset, .unset, .unset, .unset, .unset, .unset] [(.int (p2 &&& (15 : Int32)))])) _
    refine XS.istore X0.here hx rfl (hb hby at_9) rfl (l' := #[.val (.int p0), .val (.int p1), .val (.int p2), .val (.int (p1 &&& (15 : Int32))), .val (.int (p2 &&& (15 : Int32))), .unset, .unset, .unset, .unset, .unset, .unset, .unset, .unset, .unset, .unset, .unset, .unset, .unset]) rfl ?_
    show Steps p.tables e below (s₁.setTop (mkF m 11 #[.val (.int p0), .val (.int p1), .val (.int p2), .val (.int (p1 &&& (15 : Int32))), .val (.int (p2 &&& (15 : Int32))), .unset, .unset, .unset, .unset, .unset, .unset, .unset, .unset, .unset, .unset, .unset, .unset, .unset] [])) _
    refine XS.iloadN X0.here hx rfl (hb hby at_11) rfl ?_
    show Steps p.tables e below (s₁.setTop (mkF m 12 #[.val (.int p0), .val (.int p1), .val (.int p2), .val (.int (p1 &&& (15 : Int32))), .val (.int (p2 &&& (15 : Int32))), .unset, .unset, .unset, .unset, .unset, .unset, .unset, .unset, .unset, .unset, .unset, .unset, .unset] [(.int p0)])) _
    refine XS.iconst X0.here hx rfl (hb hby at_12) ?_
    show Steps p.tables e below (s₁.setTop (mkF m 13 #[.val (.int p0), .val (.int p1), .val (.int p2), .val (.int (p1 &&& (15 : Int32))), .val (.int (p2 &&& (15 : Int32))), .unset, .unset, .unset, .unset, .unset, .unset, .unset, .unset, .unset, .unset, .unset, .unset, .unset] [(.int (1 : Int32)), (.int p0)])) _
    refine XS.iand X0.here hx rfl (hb hby at_13) rfl ?_
    exact k
  by_cases hc14 : (p0 &&& (1 : Int32)) = (0 : Int32)
  · obtain ⟨T107, h107, X107, e107, E107, A107, D107, -, st107⟩ := newO X0 hx hZ hown (hw _ (List.mem_of_getElem? (i := 0) rfl)) (hw _ (List.mem_of_getElem? (i := 1) rfl)) (hw _ (List.mem_of_getElem? (i := 2) rfl)) e0 (g := (mkF m 24 #[.val (.int p0), .val (.int p1), .val (.int p2), .val (.int (p1 &&& (15 : Int32))), .val (.int (p2 &&& (15 : Int32))), .val (.int (0 : Int32)), .unset, .unset, .unset, .unset, .unset, .unset, .unset, .unset, .unset, .unset, .unset, .unset] [])) rfl (hb hby at_24) (by decide) (by decide)
    obtain ⟨b107, g107⟩ : ∃ z, z = h0.size := ⟨_, rfl⟩
    rw [← g107] at A107 D107 st107
    have gg_b107 : n0 ≤ b107 := Nat.le_trans (Nat.le_trans Z0 K0.1) (Nat.le_of_eq g107.symm)
    have sz_b107 : h0.size ≤ b107 := Nat.le_trans K0.1 (Nat.le_of_eq g107.symm)
    have K107 := K0.ext E107
    have F107_root : Fld Z h107 b107 "com/example/path_acl_check/pathaclcheck/RecordTable" "root" "I" (.int (0 : Int32)) := D107 (Or.inl (hw _ (List.mem_of_getElem? (i := 10) rfl))) (ty := .int) (by decide)
    have F107_parents : Fld Z h107 b107 "com/example/path_acl_check/pathaclcheck/RecordTable" "parents" "[I" .null := D107 (Or.inl (hw _ (List.mem_of_getElem? (i := 13) rfl))) (ty := (.array .int)) (by decide)
    have F107_protectionNumbers : Fld Z h107 b107 "com/example/path_acl_check/pathaclcheck/RecordTable" "protectionNumbers" "[I" .null := D107 (Or.inl (hw _ (List.mem_of_getElem? (i := 15) rfl))) (ty := (.array .int)) (by decide)
    have F107_protections : Fld Z h107 b107 "com/example/path_acl_check/pathaclcheck/RecordTable" "protections" "[Lcom/example/path_acl_check/pathaclcheck/Protection;" .null := D107 (Or.inl (hw _ (List.mem_of_getElem? (i := 19) rfl))) (ty := (.array (.object "com/example/path_acl_check/pathaclcheck/Protection"))) (by decide)
    have F107_partEnds : Fld Z h107 b107 "com/example/path_acl_check/pathaclcheck/RecordTable" "partEnds" "[I" .null := D107 (Or.inl (hw _ (List.mem_of_getElem? (i := 21) rfl))) (ty := (.array .int)) (by decide)
    have F107_parts : Fld Z h107 b107 "com/example/path_acl_check/pathaclcheck/RecordTable" "parts" "[B" .null := D107 (Or.inl (hw _ (List.mem_of_getElem? (i := 24) rfl))) (ty := (.array .byte)) (by decide)
    have F107_slots : Fld Z h107 b107 "com/example/path_acl_check/pathaclcheck/RecordTable" "slots" "[J" .null := D107 (Or.inl (hw _ (List.mem_of_getElem? (i := 27) rfl))) (ty := (.array .long)) (by decide)
    obtain ⟨_, _, ⟨T108, L108, k108, n108⟩, -, X108, ⟨Lc108, hQ108, l108, y108, z108⟩, st108⟩ := X107.specialBack hx (y := (⟨"com/example/path_acl_check/pathaclcheck/RecordTable", "<init>", "()V"⟩ : MethodName)) rfl hown (mvT hZ (hw _ (List.mem_of_getElem? (i := 3) rfl))) (mvT hZ (hw _ (List.mem_of_getElem? (i := 4) rfl))) (mvT hZ (hw _ (List.mem_of_getElem? (i := 5) rfl))) (by decide) (backOf (W := 1) (rm1 l Z a0 hw [] b107 h107 n0 (Nat.le_trans Z0 K107.1) A107 F107_root F107_parents F107_protectionNumbers F107_protections F107_partEnds F107_parts F107_slots gg_b107) hZ (hw _ (List.mem_of_getElem? (i := 5) rfl)) (hw _ (List.mem_of_getElem? (i := 2) rfl)) (by decide) (by decide)) (g := (mkF m 28 #[.val (.int p0), .val (.int p1), .val (.int p2), .val (.int (p1 &&& (15 : Int32))), .val (.int (p2 &&& (15 : Int32))), .val (.int (0 : Int32)), .unset, .unset, .unset, .unset, .unset, .unset, .unset, .unset, .unset, .unset, .unset, .unset] [(.ref b107), (.ref b107)])) rfl (by rw [hml]; rfl) (Steps.refl _) (a := b107) (argsL := []) (rest := [(.ref b107)]) (lenOf own_pd1 rfl) rfl (by show 2 * 0 + _ ≤ _; exact Nat.le_of_eq rfl) (hb hby at_28) (fun _ _ => ⟨rfl, e107, (by decide : 1 + 6 ≤ _), (by decide : 13 + 192 ≤ _)⟩)
    dsimp only [Pt.U, Pt.locs, Pt.cells, Pt.slots] at X108 l108 y108 z108 st108 hQ108
    subst l108 y108 z108
    obtain ⟨b1_108, b2_108, k1_108, k2_108, rfl, N108q, i108_6, i108_7, i108_8, i108_9, i108_10, i108_11, i108_12, i108_13⟩ := hQ108
    have N108 := Fr.app N0 N108q
    have ne_b107_b1_108 : b107 ≠ b1_108 := Nat.ne_of_lt (Nat.lt_of_lt_of_le A107.lt i108_7)
    have gg_b1_108 : n0 ≤ b1_108 := Nat.le_trans (Nat.le_trans Z0 K107.1) i108_7
    have sz_b1_108 : h0.size ≤ b1_108 := Nat.le_trans K107.1 i108_7
    have ne_b107_b2_108 : b107 ≠ b2_108 := Nat.ne_of_lt (Nat.lt_of_lt_of_le A107.lt i108_8)
    have gg_b2_108 : n0 ≤ b2_108 := Nat.le_trans (Nat.le_trans Z0 K107.1) i108_8
    have sz_b2_108 : h0.size ≤ b2_108 := Nat.le_trans K107.1 i108_8
    have K108 := K107.trans i108_6 (allS (Or.inr sz_b107) all0)
    obtain ⟨T109, h109, X109, e109, E109, A109, D109, -, st109⟩ := newO X108 hx hZ hown (hw _ (List.mem_of_getElem? (i := 0) rfl)) (hw _ (List.mem_of_getElem? (i := 1) rfl)) (hw _ (List.mem_of_getElem? (i := 2) rfl)) rfl (g := (mkF m 33 #[.val (.int p0), .val (.int p1), .val (.int p2), .val (.int (p1 &&& (15 : Int32))), .val (.int (p2 &&& (15 : Int32))), .val (.int (0 : Int32)), .val (.ref b107), .unset, .unset, .unset, .unset, .unset, .unset, .unset, .unset, .unset, .unset, .unset] [])) rfl (hb hby at_33) (by decide) (by decide)
    obtain ⟨b109, g109⟩ : ∃ z, z = T108.heap.size := ⟨_, rfl⟩
    rw [← g109] at A109 D109 st109
    have ne_b107_b109 : b107 ≠ b109 := Nat.ne_of_lt (Nat.lt_of_lt_of_le i108_9.lt (Nat.le_of_eq g109.symm))
    have ne_b1_108_b109 : b1_108 ≠ b109 := Nat.ne_of_lt (Nat.lt_of_lt_of_le i108_12.lt (Nat.le_of_eq g109.symm))
    have ne_b2_108_b109 : b2_108 ≠ b109 := Nat.ne_of_lt (Nat.lt_of_lt_of_le i108_13.lt (Nat.le_of_eq g109.symm))
    have gg_b109 : n0 ≤ b109 := Nat.le_trans (Nat.le_trans Z0 K108.1) (Nat.le_of_eq g109.symm)
    have sz_b109 : h0.size ≤ b109 := Nat.le_trans K108.1 (Nat.le_of_eq g109.symm)
    have K109 := K108.ext E109
    have F109_root : Fld Z h109 b109 "com/example/path_acl_check/pathaclcheck/RecordTable" "root" "I" (.int (0 : Int32)) := D109 (Or.inl (hw _ (List.mem_of_getElem? (i := 10) rfl))) (ty := .int) (by decide)
    have F109_parents : Fld Z h109 b109 "com/example/path_acl_check/pathaclcheck/RecordTable" "parents" "[I" .null := D109 (Or.inl (hw _ (List.mem_of_getElem? (i := 13) rfl))) (ty := (.array .int)) (by decide)
    have F109_protectionNumbers : Fld Z h109 b109 "com/example/path_acl_check/pathaclcheck/RecordTable" "protectionNumbers" "[I" .null := D109 (Or.inl (hw _ (List.mem_of_getElem? (i := 15) rfl))) (ty := (.array .int)) (by decide)
    have F109_protections : Fld Z h109 b109 "com/example/path_acl_check/pathaclcheck/RecordTable" "protections" "[Lcom/example/path_acl_check/pathaclcheck/Protection;" .null := D109 (Or.inl (hw _ (List.mem_of_getElem? (i := 19) rfl))) (ty := (.array (.object "com/example/path_acl_check/pathaclcheck/Protection"))) (by decide)
    have F109_partEnds : Fld Z h109 b109 "com/example/path_acl_check/pathaclcheck/RecordTable" "partEnds" "[I" .null := D109 (Or.inl (hw _ (List.mem_of_getElem? (i := 21) rfl))) (ty := (.array .int)) (by decide)
    have F109_parts : Fld Z h109 b109 "com/example/path_acl_check/pathaclcheck/RecordTable" "parts" "[B" .null := D109 (Or.inl (hw _ (List.mem_of_getElem? (i := 24) rfl))) (ty := (.array .byte)) (by decide)
    have F109_slots : Fld Z h109 b109 "com/example/path_acl_check/pathaclcheck/RecordTable" "slots" "[J" .null := D109 (Or.inl (hw _ (List.mem_of_getElem? (i := 27) rfl))) (ty := (.array .long)) (by decide)
    obtain ⟨_, _, ⟨T110, L110, k110, n110⟩, -, X110, ⟨Lc110, hQ110, l110, y110, z110⟩, st110⟩ := X109.specialBack hx (y := (⟨"com/example/path_acl_check/pathaclcheck/RecordTable", "<init>", "()V"⟩ : MethodName)) rfl hown (mvT hZ (hw _ (List.mem_of_getElem? (i := 3) rfl))) (mvT hZ (hw _ (List.mem_of_getElem? (i := 4) rfl))) (mvT hZ (hw _ (List.mem_of_getElem? (i := 5) rfl))) (by decide) (backOf (W := 1) (rm1 l Z a0 hw [] b109 h109 n0 (Nat.le_trans Z0 K109.1) A109 F109_root F109_parents F109_protectionNumbers F109_protections F109_partEnds F109_parts F109_slots gg_b109) hZ (hw _ (List.mem_of_getElem? (i := 5) rfl)) (hw _ (List.mem_of_getElem? (i := 2) rfl)) (by decide) (by decide)) (g := (mkF m 37 #[.val (.int p0), .val (.int p1), .val (.int p2), .val (.int (p1 &&& (15 : Int32))), .val (.int (p2 &&& (15 : Int32))), .val (.int (0 : Int32)), .val (.ref b107), .unset, .unset, .unset, .unset, .unset, .unset, .unset, .unset, .unset, .unset, .unset] [(.ref b109), (.ref b109)])) rfl (by rw [hml]; rfl) (Steps.refl _) (a := b109) (argsL := []) (rest := [(.ref b109)]) (lenOf own_pd1 rfl) rfl (by show 2 * 0 + _ ≤ _; exact Nat.le_of_eq rfl) (hb hby at_37) (fun _ _ => ⟨rfl, e109, (by decide : 8 + 6 ≤ _), (by decide : 218 + 192 ≤ _)⟩)
    dsimp only [Pt.U, Pt.locs, Pt.cells, Pt.slots] at X110 l110 y110 z110 st110 hQ110
    subst l110 y110 z110
    obtain ⟨b1_110, b2_110, k1_110, k2_110, rfl, N110q, i110_6, i110_7, i110_8, i110_9, i110_10, i110_11, i110_12, i110_13⟩ := hQ110
    have N110 := Fr.app N108 N110q
    have Q111 := (i108_9.ext E109)
    have ne_b107_b1_110 : b107 ≠ b1_110 := Nat.ne_of_lt (Nat.lt_of_lt_of_le Q111.lt i110_7)
    have Q112 := (i108_12.ext E109)
    have ne_b1_108_b1_110 : b1_108 ≠ b1_110 := Nat.ne_of_lt (Nat.lt_of_lt_of_le Q112.lt i110_7)
    have Q113 := (i108_13.ext E109)
    have ne_b2_108_b1_110 : b2_108 ≠ b1_110 := Nat.ne_of_lt (Nat.lt_of_lt_of_le Q113.lt i110_7)
    have ne_b109_b1_110 : b109 ≠ b1_110 := Nat.ne_of_lt (Nat.lt_of_lt_of_le A109.lt i110_7)
    have gg_b1_110 : n0 ≤ b1_110 := Nat.le_trans (Nat.le_trans Z0 K109.1) i110_7
    have sz_b1_110 : h0.size ≤ b1_110 := Nat.le_trans K109.1 i110_7
    have ne_b107_b2_110 : b107 ≠ b2_110 := Nat.ne_of_lt (Nat.lt_of_lt_of_le Q111.lt i110_8)
    have ne_b1_108_b2_110 : b1_108 ≠ b2_110 := Nat.ne_of_lt (Nat.lt_of_lt_of_le Q112.lt i110_8)
    have ne_b2_108_b2_110 : b2_108 ≠ b2_110 := Nat.ne_of_lt (Nat.lt_of_lt_of_le Q113.lt i110_8)
    have ne_b109_b2_110 : b109 ≠ b2_110 := Nat.ne_of_lt (Nat.lt_of_lt_of_le A109.lt i110_8)
    have gg_b2_110 : n0 ≤ b2_110 := Nat.le_trans (Nat.le_trans Z0 K109.1) i110_8
    have sz_b2_110 : h0.size ≤ b2_110 := Nat.le_trans K109.1 i110_8
    have K110 := K109.trans i110_6 (allS (Or.inr sz_b109) all0)
    obtain ⟨T114, h114, X114, e114, E114, A114, D114, -, st114⟩ := newO X110 hx hZ hown (hw _ (List.mem_of_getElem? (i := 28) rfl)) (hw _ (List.mem_of_getElem? (i := 29) rfl)) (hw _ (List.mem_of_getElem? (i := 30) rfl)) rfl (g := (mkF m 56 #[.val (.int p0), .val (.int p1), .val (.int p2), .val (.int (p1 &&& (15 : Int32))), .val (.int (p2 &&& (15 : Int32))), .val (.int (0 : Int32)), .val (.ref b107), .val (.ref b109), .val (.ref b109), .unset, .unset, .unset, .unset, .unset, .unset, .unset, .unset, .unset] [])) rfl (hb hby at_56) (by decide) (by decide)
    obtain ⟨b114, g114⟩ : ∃ z, z = T110.heap.size := ⟨_, rfl⟩
    rw [← g114] at A114 D114 st114
    have Q115 := (Q111.keep i110_6)
    have ne_b107_b114 : b107 ≠ b114 := Nat.ne_of_lt (Nat.lt_of_lt_of_le Q115.lt (Nat.le_of_eq g114.symm))
    have Q116 := (Q112.keep i110_6 (ninS ne_b1_108_b109 nin0))
    have ne_b1_108_b114 : b1_108 ≠ b114 := Nat.ne_of_lt (Nat.lt_of_lt_of_le Q116.lt (Nat.le_of_eq g114.symm))
    have Q117 := (Q113.keep i110_6 (ninS ne_b2_108_b109 nin0))
    have ne_b2_108_b114 : b2_108 ≠ b114 := Nat.ne_of_lt (Nat.lt_of_lt_of_le Q117.lt (Nat.le_of_eq g114.symm))
    have ne_b109_b114 : b109 ≠ b114 := Nat.ne_of_lt (Nat.lt_of_lt_of_le i110_9.lt (Nat.le_of_eq g114.symm))
    have ne_b1_110_b114 : b1_110 ≠ b114 := Nat.ne_of_lt (Nat.lt_of_lt_of_le i110_12.lt (Nat.le_of_eq g114.symm))
    have ne_b2_110_b114 : b2_110 ≠ b114 := Nat.ne_of_lt (Nat.lt_of_lt_of_le i110_13.lt (Nat.le_of_eq g114.symm))
    have gg_b114 : n0 ≤ b114 := Nat.le_trans (Nat.le_trans Z0 K110.1) (Nat.le_of_eq g114.symm)
    have sz_b114 : h0.size ≤ b114 := Nat.le_trans K110.1 (Nat.le_of_eq g114.symm)
    have K114 := K110.ext E114
    have F114_table : Fld Z h114 b114 "com/example/path_acl_check/pathaclcheck/AclRecord" "table" "Lcom/example/path_acl_check/pathaclcheck/RecordTable;" .null := D114 (Or.inr (hw _ (List.mem_of_getElem? (i := 36) rfl))) (ty := (.object "com/example/path_acl_check/pathaclcheck/RecordTable")) (by decide)
    have F114_record : Fld Z h114 b114 "com/example/path_acl_check/pathaclcheck/AclRecord" "record" "I" (.int (0 : Int32)) := D114 (Or.inr (hw _ (List.mem_of_getElem? (i := 38) rfl))) (ty := .int) (by decide)
    have F114_childName : Fld Z h114 b114 "com/example/path_acl_check/pathaclcheck/AclRecord" "childName" "Ljava/lang/String;" .null := D114 (Or.inr (hw _ (List.mem_of_getElem? (i := 40) rfl))) (ty := (.object "java/lang/String")) (by decide)
    have F114_protection : Fld Z h114 b114 "com/example/path_acl_check/pathaclcheck/AclRecord" "protection" "Lcom/example/path_acl_check/pathaclcheck/Protection;" .null := D114 (Or.inr (hw _ (List.mem_of_getElem? (i := 47) rfl))) (ty := (.object "com/example/path_acl_check/pathaclcheck/Protection")) (by decide)
    have Q118 := (Q115.ext E114)
    have Q119 := (((i108_10.ext E109).keep i110_6 (ninS ne_b107_b109 nin0)).ext E114)
    have Q120 := (((i108_11.ext E109).keep i110_6 (ninS ne_b107_b109 nin0)).ext E114)
    have Q121 := (Q116.ext E114)
    have Q122 := (Q117.ext E114)
    obtain ⟨_, _, ⟨T123, L123, k123, n123⟩, -, X123, ⟨Lc123, hQ123, l123, y123, z123⟩, st123⟩ := X114.specialBack hx (y := (⟨"com/example/path_acl_check/pathaclcheck/AclRecord", "<init>", "(Lcom/example/path_acl_check/pathaclcheck/RecordTable;I)V"⟩ : MethodName)) rfl hown (mvT hZ (hw _ (List.mem_of_getElem? (i := 31) rfl))) (mvT hZ (hw _ (List.mem_of_getElem? (i := 32) rfl))) (mvT hZ (hw _ (List.mem_of_getElem? (i := 33) rfl))) (by decide) (backOf (W := 1) (rm2 l Z a0 hw [] b114 b107 (p1 &&& (15 : Int32)) b1_108 b2_108 k1_108 k2_108 h114 n0 (Nat.le_trans Z0 K114.1) A114 F114_table F114_record F114_childName F114_protection gg_b114 Q118 Q119 Q120 Q121 Q122 (own_ix p1) (Ne.symm ne_b107_b114) (Ne.symm ne_b1_108_b114) (Ne.symm ne_b2_108_b114)) hZ (hw _ (List.mem_of_getElem? (i := 33) rfl)) (hw _ (List.mem_of_getElem? (i := 30) rfl)) (by decide) (by decide)) (g := (mkF m 63 #[.val (.int p0), .val (.int p1), .val (.int p2), .val (.int (p1 &&& (15 : Int32))), .val (.int (p2 &&& (15 : Int32))), .val (.int (0 : Int32)), .val (.ref b107), .val (.ref b109), .val (.ref b109), .unset, .unset, .unset, .unset, .unset, .unset, .unset, .unset, .unset] [(.int (p1 &&& (15 : Int32))), (.ref b107), (.ref b114), (.ref b114)])) rfl (by rw [hml]; rfl) (Steps.refl _) (a := b114) (argsL := [(.ref b107), (.int (p1 &&& (15 : Int32)))]) (rest := [(.ref b114)]) (lenOf own_pd2 rfl) rfl (by show 2 * 0 + _ ≤ _; exact Nat.le_of_eq rfl) (hb hby at_63) (fun _ _ => ⟨rfl, e114, (by decide : 15 + 0 ≤ _), (by decide : 414 + 0 ≤ _)⟩)
    dsimp only [Pt.U, Pt.locs, Pt.cells, Pt.slots] at X123 l123 y123 z123 st123 hQ123
    subst l123 y123 z123
    obtain ⟨rfl, N123q, i123_2, i123_3, i123_4, i123_5⟩ := hQ123
    have N123 := Fr.app N110 N123q
    have K123 := K114.trans i123_2 (allS (Or.inr sz_b114) all0)
    obtain ⟨T124, h124, X124, e124, E124, A124, D124, -, st124⟩ := newO X123 hx hZ hown (hw _ (List.mem_of_getElem? (i := 28) rfl)) (hw _ (List.mem_of_getElem? (i := 29) rfl)) (hw _ (List.mem_of_getElem? (i := 30) rfl)) rfl (g := (mkF m 68 #[.val (.int p0), .val (.int p1), .val (.int p2), .val (.int (p1 &&& (15 : Int32))), .val (.int (p2 &&& (15 : Int32))), .val (.int (0 : Int32)), .val (.ref b107), .val (.ref b109), .val (.ref b109), .val (.ref b114), .unset, .unset, .unset, .unset, .unset, .unset, .unset, .unset] [])) rfl (hb hby at_68) (by decide) (by decide)
    obtain ⟨b124, g124⟩ : ∃ z, z = T123.heap.size := ⟨_, rfl⟩
    rw [← g124] at A124 D124 st124
    have Q125 := (Q118.keep i123_2)
    have ne_b107_b124 : b107 ≠ b124 := Nat.ne_of_lt (Nat.lt_of_lt_of_le Q125.lt (Nat.le_of_eq g124.symm))
    have Q126 := (Q121.keep i123_2 (ninS ne_b1_108_b114 nin0))
    have ne_b1_108_b124 : b1_108 ≠ b124 := Nat.ne_of_lt (Nat.lt_of_lt_of_le Q126.lt (Nat.le_of_eq g124.symm))
    have Q127 := (Q122.keep i123_2 (ninS ne_b2_108_b114 nin0))
    have ne_b2_108_b124 : b2_108 ≠ b124 := Nat.ne_of_lt (Nat.lt_of_lt_of_le Q127.lt (Nat.le_of_eq g124.symm))
    have Q128 := ((i110_9.ext E114).keep i123_2)
    have ne_b109_b124 : b109 ≠ b124 := Nat.ne_of_lt (Nat.lt_of_lt_of_le Q128.lt (Nat.le_of_eq g124.symm))
    have Q129 := ((i110_12.ext E114).keep i123_2 (ninS ne_b1_110_b114 nin0))
    have ne_b1_110_b124 : b1_110 ≠ b124 := Nat.ne_of_lt (Nat.lt_of_lt_of_le Q129.lt (Nat.le_of_eq g124.symm))
    have Q130 := ((i110_13.ext E114).keep i123_2 (ninS ne_b2_110_b114 nin0))
    have ne_b2_110_b124 : b2_110 ≠ b124 := Nat.ne_of_lt (Nat.lt_of_lt_of_le Q130.lt (Nat.le_of_eq g124.symm))
    have ne_b114_b124 : b114 ≠ b124 := Nat.ne_of_lt (Nat.lt_of_lt_of_le i123_3.lt (Nat.le_of_eq g124.symm))
    have gg_b124 : n0 ≤ b124 := Nat.le_trans (Nat.le_trans Z0 K123.1) (Nat.le_of_eq g124.symm)
    have sz_b124 : h0.size ≤ b124 := Nat.le_trans K123.1 (Nat.le_of_eq g124.symm)
    have K124 := K123.ext E124
    have F124_table : Fld Z h124 b124 "com/example/path_acl_check/pathaclcheck/AclRecord" "table" "Lcom/example/path_acl_check/pathaclcheck/RecordTable;" .null := D124 (Or.inr (hw _ (List.mem_of_getElem? (i := 36) rfl))) (ty := (.object "com/example/path_acl_check/pathaclcheck/RecordTable")) (by decide)
    have F124_record : Fld Z h124 b124 "com/example/path_acl_check/pathaclcheck/AclRecord" "record" "I" (.int (0 : Int32)) := D124 (Or.inr (hw _ (List.mem_of_getElem? (i := 38) rfl))) (ty := .int) (by decide)
    have F124_childName : Fld Z h124 b124 "com/example/path_acl_check/pathaclcheck/AclRecord" "childName" "Ljava/lang/String;" .null := D124 (Or.inr (hw _ (List.mem_of_getElem? (i := 40) rfl))) (ty := (.object "java/lang/String")) (by decide)
    have F124_protection : Fld Z h124 b124 "com/example/path_acl_check/pathaclcheck/AclRecord" "protection" "Lcom/example/path_acl_check/pathaclcheck/Protection;" .null := D124 (Or.inr (hw _ (List.mem_of_getElem? (i := 47) rfl))) (ty := (.object "com/example/path_acl_check/pathaclcheck/Protection")) (by decide)
    have Q131 := (Q128.ext E124)
    have Q132 := (((i110_10.ext E114).keep i123_2 (ninS ne_b109_b114 nin0)).ext E124)
    have Q133 := (((i110_11.ext E114).keep i123_2 (ninS ne_b109_b114 nin0)).ext E124)
    have Q134 := (Q129.ext E124)
    have Q135 := (Q130.ext E124)
    obtain ⟨_, _, ⟨T136, L136, k136, n136⟩, -, X136, ⟨Lc136, hQ136, l136, y136, z136⟩, st136⟩ := X124.specialBack hx (y := (⟨"com/example/path_acl_check/pathaclcheck/AclRecord", "<init>", "(Lcom/example/path_acl_check/pathaclcheck/RecordTable;I)V"⟩ : MethodName)) rfl hown (mvT hZ (hw _ (List.mem_of_getElem? (i := 31) rfl))) (mvT hZ (hw _ (List.mem_of_getElem? (i := 32) rfl))) (mvT hZ (hw _ (List.mem_of_getElem? (i := 33) rfl))) (by decide) (backOf (W := 1) (rm2 l Z a0 hw [] b124 b109 (p2 &&& (15 : Int32)) b1_110 b2_110 k1_110 k2_110 h124 n0 (Nat.le_trans Z0 K124.1) A124 F124_table F124_record F124_childName F124_protection gg_b124 Q131 Q132 Q133 Q134 Q135 (own_ix p2) (Ne.symm ne_b109_b124) (Ne.symm ne_b1_110_b124) (Ne.symm ne_b2_110_b124)) hZ (hw _ (List.mem_of_getElem? (i := 33) rfl)) (hw _ (List.mem_of_getElem? (i := 30) rfl)) (by decide) (by decide)) (g := (mkF m 76 #[.val (.int p0), .val (.int p1), .val (.int p2), .val (.int (p1 &&& (15 : Int32))), .val (.int (p2 &&& (15 : Int32))), .val (.int (0 : Int32)), .val (.ref b107), .val (.ref b109), .val (.ref b109), .val (.ref b114), .unset, .unset, .unset, .unset, .unset, .unset, .unset, .unset] [(.int (p2 &&& (15 : Int32))), (.ref b109), (.ref b124), (.ref b124)])) rfl (by rw [hml]; rfl) (Steps.refl _) (a := b124) (argsL := [(.ref b109), (.int (p2 &&& (15 : Int32)))]) (rest := [(.ref b124)]) (lenOf own_pd2 rfl) rfl (by show 2 * 0 + _ ≤ _; exact Nat.le_of_eq rfl) (hb hby at_76) (fun _ _ => ⟨rfl, e124, (by decide : 16 + 0 ≤ _), (by decide : 418 + 0 ≤ _)⟩)
    dsimp only [Pt.U, Pt.locs, Pt.cells, Pt.slots] at X136 l136 y136 z136 st136 hQ136
    subst l136 y136 z136
    obtain ⟨rfl, N136q, i136_2, i136_3, i136_4, i136_5⟩ := hQ136
    have N136 := Fr.app N123 N136q
    have K136 := K124.trans i136_2 (allS (Or.inr sz_b124) all0)
    have Q137 := ((i123_3.ext E124).keep i136_2)
    have Q138 := ((i123_4.ext E124).keep i136_2 (ninS ne_b114_b124 nin0))
    have Q139 := ((i123_5.ext E124).keep i136_2 (ninS ne_b114_b124 nin0))
    obtain ⟨cq140, kq140, q140a, q140b, q140c⟩ := isOf hZ rfl Q137
    obtain ⟨_, _, ⟨T140, L140, k140, n140⟩, -, X140, ⟨Lc140, hQ140, l140, y140, z140⟩, st140⟩ := X136.virtualBack hx (y := (⟨"com/example/path_acl_check/pathaclcheck/AclRecord", "equals", "(Ljava/lang/Object;)Z"⟩ : MethodName)) (z := (⟨"com/example/path_acl_check/pathaclcheck/AclRecord", "equals", "(Ljava/lang/Object;)Z"⟩ : MethodName)) hown (mvT hZ (hw _ (List.mem_of_getElem? (i := 48) rfl))) (mvT hZ (hw _ (List.mem_of_getElem? (i := 49) rfl))) (notFace_of_selects (args := #[]) (mvT hZ (hw _ (List.mem_of_getElem? (i := 51) rfl)))) (mvT hZ (hw _ (List.mem_of_getElem? (i := 51) rfl))) (mvT hZ (hw _ (List.mem_of_getElem? (i := 50) rfl))) (by decide) (backOf (W := 0) (rm4_d l Z a0 hw [] b114 b124 b107 b109 (p1 &&& (15 : Int32)) (p2 &&& (15 : Int32)) T136.heap n0 (Nat.le_trans Z0 K136.1) Q137 Q138 Q139 i136_3 i136_4 i136_5 (Ne.symm ne_b114_b124) (Ne.symm ne_b107_b109)) hZ (hw _ (List.mem_of_getElem? (i := 52) rfl)) (hw _ (List.mem_of_getElem? (i := 30) rfl)) (by decide) (by decide)) q140a q140c (g := (mkF m 103 #[.val (.int p0), .val (.int p1), .val (.int p2), .val (.int (p1 &&& (15 : Int32))), .val (.int (p2 &&& (15 : Int32))), .val (.int (0 : Int32)), .val (.ref b107), .val (.ref b109), .val (.ref b109), .val (.ref b114), .val (.ref b124), .val (.int (0 : Int32)), .unset, .unset, .unset, .unset, .unset, .unset] [(.ref b124), (.ref b114)])) rfl (by rw [hml]; rfl) (Steps.refl _) (argsL := [(.ref b124)]) (rest := []) (lenOf own_pd3 rfl) rfl (by show 2 * 0 + _ ≤ _; exact Nat.le_of_eq rfl) (hb hby at_103) (fun _ _ => ⟨rfl, rfl, (by decide : 16 + 0 ≤ _), (by decide : 418 + 0 ≤ _)⟩)
    dsimp only [Pt.U, Pt.locs, Pt.cells, Pt.slots] at X140 l140 y140 z140 st140 hQ140
    subst l140 y140 z140
    obtain ⟨rfl, N140q, e140⟩ := hQ140
    have N140 := Fr.app N136 N140q
    obtain ⟨cq141, kq141, q141a, q141b, q141c⟩ := isOf hZ e140 i136_3
    obtain ⟨_, _, ⟨T141, L141, k141, n141⟩, -, X141, ⟨Lc141, hQ141, l141, y141, z141⟩, st141⟩ := X140.virtualBack hx (y := (⟨"com/example/path_acl_check/pathaclcheck/AclRecord", "equals", "(Ljava/lang/Object;)Z"⟩ : MethodName)) (z := (⟨"com/example/path_acl_check/pathaclcheck/AclRecord", "equals", "(Ljava/lang/Object;)Z"⟩ : MethodName)) hown (mvT hZ (hw _ (List.mem_of_getElem? (i := 48) rfl))) (mvT hZ (hw _ (List.mem_of_getElem? (i := 49) rfl))) (notFace_of_selects (args := #[]) (mvT hZ (hw _ (List.mem_of_getElem? (i := 51) rfl)))) (mvT hZ (hw _ (List.mem_of_getElem? (i := 51) rfl))) (mvT hZ (hw _ (List.mem_of_getElem? (i := 50) rfl))) (by decide) (backOf (W := 0) (rm4_d l Z a0 hw [] b124 b114 b109 b107 (p2 &&& (15 : Int32)) (p1 &&& (15 : Int32)) T136.heap n0 (Nat.le_trans Z0 K136.1) i136_3 i136_4 i136_5 Q137 Q138 Q139 ne_b114_b124 ne_b107_b109) hZ (hw _ (List.mem_of_getElem? (i := 52) rfl)) (hw _ (List.mem_of_getElem? (i := 30) rfl)) (by decide) (by decide)) q141a q141c (g := (mkF m 112 #[.val (.int p0), .val (.int p1), .val (.int p2), .val (.int (p1 &&& (15 : Int32))), .val (.int (p2 &&& (15 : Int32))), .val (.int (0 : Int32)), .val (.ref b107), .val (.ref b109), .val (.ref b109), .val (.ref b114), .val (.ref b124), .val (.int (0 : Int32)), .val (.int (0 : Int32)), .unset, .unset, .unset, .unset, .unset] [(.ref b114), (.ref b124)])) rfl (by rw [hml]; rfl) (Steps.refl _) (argsL := [(.ref b114)]) (rest := []) (lenOf own_pd3 rfl) rfl (by show 2 * 0 + _ ≤ _; exact Nat.le_of_eq rfl) (hb hby at_112) (fun _ _ => ⟨rfl, e140, (by decide : 16 + 0 ≤ _), (by decide : 418 + 0 ≤ _)⟩)
    dsimp only [Pt.U, Pt.locs, Pt.cells, Pt.slots] at X141 l141 y141 z141 st141 hQ141
    subst l141 y141 z141
    obtain ⟨rfl, N141q, e141⟩ := hQ141
    have N141 := Fr.app N140 N141q
    obtain ⟨cq142, kq142, q142a, q142b, q142c⟩ := isOf hZ e141 Q137
    obtain ⟨_, _, ⟨T142, L142, k142, n142⟩, -, X142, ⟨Lc142, hQ142, l142, y142, z142⟩, st142⟩ := X141.virtualBack hx (y := (⟨"com/example/path_acl_check/pathaclcheck/AclRecord", "equals", "(Ljava/lang/Object;)Z"⟩ : MethodName)) (z := (⟨"com/example/path_acl_check/pathaclcheck/AclRecord", "equals", "(Ljava/lang/Object;)Z"⟩ : MethodName)) hown (mvT hZ (hw _ (List.mem_of_getElem? (i := 48) rfl))) (mvT hZ (hw _ (List.mem_of_getElem? (i := 49) rfl))) (notFace_of_selects (args := #[]) (mvT hZ (hw _ (List.mem_of_getElem? (i := 51) rfl)))) (mvT hZ (hw _ (List.mem_of_getElem? (i := 51) rfl))) (mvT hZ (hw _ (List.mem_of_getElem? (i := 50) rfl))) (by decide) (backOf (W := 0) (rm4_s l Z a0 hw [] b114 b107 (p1 &&& (15 : Int32)) T136.heap n0 (Nat.le_trans Z0 K136.1) Q137 Q138 Q139) hZ (hw _ (List.mem_of_getElem? (i := 52) rfl)) (hw _ (List.mem_of_getElem? (i := 30) rfl)) (by decide) (by decide)) q142a q142c (g := (mkF m 121 #[.val (.int p0), .val (.int p1), .val (.int p2), .val (.int (p1 &&& (15 : Int32))), .val (.int (p2 &&& (15 : Int32))), .val (.int (0 : Int32)), .val (.ref b107), .val (.ref b109), .val (.ref b109), .val (.ref b114), .val (.ref b124), .val (.int (0 : Int32)), .val (.int (0 : Int32)), .val (.int (0 : Int32)), .unset, .unset, .unset, .unset] [(.ref b114), (.ref b114)])) rfl (by rw [hml]; rfl) (Steps.refl _) (argsL := [(.ref b114)]) (rest := []) (lenOf own_pd3 rfl) rfl (by show 2 * 0 + _ ≤ _; exact Nat.le_of_eq rfl) (hb hby at_121) (fun _ _ => ⟨rfl, e141, (by decide : 16 + 0 ≤ _), (by decide : 418 + 0 ≤ _)⟩)
    dsimp only [Pt.U, Pt.locs, Pt.cells, Pt.slots] at X142 l142 y142 z142 st142 hQ142
    subst l142 y142 z142
    obtain ⟨rfl, N142q, e142⟩ := hQ142
    have N142 := Fr.app N141 N142q
    obtain ⟨cq143, kq143, q143a, q143b, q143c⟩ := isOf hZ e142 i136_3
    obtain ⟨_, _, ⟨T143, L143, k143, n143⟩, -, X143, ⟨Lc143, hQ143, l143, y143, z143⟩, st143⟩ := X142.virtualBack hx (y := (⟨"com/example/path_acl_check/pathaclcheck/AclRecord", "equals", "(Ljava/lang/Object;)Z"⟩ : MethodName)) (z := (⟨"com/example/path_acl_check/pathaclcheck/AclRecord", "equals", "(Ljava/lang/Object;)Z"⟩ : MethodName)) hown (mvT hZ (hw _ (List.mem_of_getElem? (i := 48) rfl))) (mvT hZ (hw _ (List.mem_of_getElem? (i := 49) rfl))) (notFace_of_selects (args := #[]) (mvT hZ (hw _ (List.mem_of_getElem? (i := 51) rfl)))) (mvT hZ (hw _ (List.mem_of_getElem? (i := 51) rfl))) (mvT hZ (hw _ (List.mem_of_getElem? (i := 50) rfl))) (by decide) (backOf (W := 0) (rm4_s l Z a0 hw [] b124 b109 (p2 &&& (15 : Int32)) T136.heap n0 (Nat.le_trans Z0 K136.1) i136_3 i136_4 i136_5) hZ (hw _ (List.mem_of_getElem? (i := 52) rfl)) (hw _ (List.mem_of_getElem? (i := 30) rfl)) (by decide) (by decide)) q143a q143c (g := (mkF m 130 #[.val (.int p0), .val (.int p1), .val (.int p2), .val (.int (p1 &&& (15 : Int32))), .val (.int (p2 &&& (15 : Int32))), .val (.int (0 : Int32)), .val (.ref b107), .val (.ref b109), .val (.ref b109), .val (.ref b114), .val (.ref b124), .val (.int (0 : Int32)), .val (.int (0 : Int32)), .val (.int (0 : Int32)), .val (.int (1 : Int32)), .unset, .unset, .unset] [(.ref b124), (.ref b124)])) rfl (by rw [hml]; rfl) (Steps.refl _) (argsL := [(.ref b124)]) (rest := []) (lenOf own_pd3 rfl) rfl (by show 2 * 0 + _ ≤ _; exact Nat.le_of_eq rfl) (hb hby at_130) (fun _ _ => ⟨rfl, e142, (by decide : 16 + 0 ≤ _), (by decide : 418 + 0 ≤ _)⟩)
    dsimp only [Pt.U, Pt.locs, Pt.cells, Pt.slots] at X143 l143 y143 z143 st143 hQ143
    subst l143 y143 z143
    obtain ⟨rfl, N143q, e143⟩ := hQ143
    have N143 := Fr.app N142 N143q
    obtain ⟨cq144, kq144, q144a, q144b, q144c⟩ := isOf hZ e143 Q137
    obtain ⟨_, _, ⟨T144, L144, k144, n144⟩, -, X144, ⟨Lc144, hQ144, l144, y144, z144⟩, st144⟩ := X143.virtualBack hx (y := (⟨"com/example/path_acl_check/pathaclcheck/AclRecord", "equals", "(Ljava/lang/Object;)Z"⟩ : MethodName)) (z := (⟨"com/example/path_acl_check/pathaclcheck/AclRecord", "equals", "(Ljava/lang/Object;)Z"⟩ : MethodName)) hown (mvT hZ (hw _ (List.mem_of_getElem? (i := 48) rfl))) (mvT hZ (hw _ (List.mem_of_getElem? (i := 49) rfl))) (notFace_of_selects (args := #[]) (mvT hZ (hw _ (List.mem_of_getElem? (i := 51) rfl)))) (mvT hZ (hw _ (List.mem_of_getElem? (i := 51) rfl))) (mvT hZ (hw _ (List.mem_of_getElem? (i := 50) rfl))) (by decide) (backOf (W := 0) (rm4_n l Z a0 hw [] b114 T136.heap n0 (Nat.le_trans Z0 K136.1) ) hZ (hw _ (List.mem_of_getElem? (i := 52) rfl)) (hw _ (List.mem_of_getElem? (i := 30) rfl)) (by decide) (by decide)) q144a q144c (g := (mkF m 138 #[.val (.int p0), .val (.int p1), .val (.int p2), .val (.int (p1 &&& (15 : Int32))), .val (.int (p2 &&& (15 : Int32))), .val (.int (0 : Int32)), .val (.ref b107), .val (.ref b109), .val (.ref b109), .val (.ref b114), .val (.ref b124), .val (.int (0 : Int32)), .val (.int (0 : Int32)), .val (.int (0 : Int32)), .val (.int (1 : Int32)), .val (.int (1 : Int32)), .unset, .unset] [.null, (.ref b114)])) rfl (by rw [hml]; rfl) (Steps.refl _) (argsL := [.null]) (rest := []) (lenOf own_pd3 rfl) rfl (by show 2 * 0 + _ ≤ _; exact Nat.le_of_eq rfl) (hb hby at_138) (fun _ _ => ⟨rfl, e143, (by decide : 16 + 0 ≤ _), (by decide : 418 + 0 ≤ _)⟩)
    dsimp only [Pt.U, Pt.locs, Pt.cells, Pt.slots] at X144 l144 y144 z144 st144 hQ144
    subst l144 y144 z144
    obtain ⟨rfl, N144q, e144⟩ := hQ144
    have N144 := Fr.app N143 N144q
    have Q145 := ((Q125.ext E124).keep i136_2)
    obtain ⟨cq146, kq146, q146a, q146b, q146c⟩ := isOf hZ e144 Q137
    obtain ⟨_, _, ⟨T146, L146, k146, n146⟩, -, X146, ⟨Lc146, hQ146, l146, y146, z146⟩, st146⟩ := X144.virtualBack hx (y := (⟨"com/example/path_acl_check/pathaclcheck/AclRecord", "equals", "(Ljava/lang/Object;)Z"⟩ : MethodName)) (z := (⟨"com/example/path_acl_check/pathaclcheck/AclRecord", "equals", "(Ljava/lang/Object;)Z"⟩ : MethodName)) hown (mvT hZ (hw _ (List.mem_of_getElem? (i := 48) rfl))) (mvT hZ (hw _ (List.mem_of_getElem? (i := 49) rfl))) (notFace_of_selects (args := #[]) (mvT hZ (hw _ (List.mem_of_getElem? (i := 51) rfl)))) (mvT hZ (hw _ (List.mem_of_getElem? (i := 51) rfl))) (mvT hZ (hw _ (List.mem_of_getElem? (i := 50) rfl))) (by decide) (backOf (W := 0) (rm4_t l Z a0 hw [] b114 b107 T136.heap n0 (Nat.le_trans Z0 K136.1) Q145 ne_b107_b114) hZ (hw _ (List.mem_of_getElem? (i := 52) rfl)) (hw _ (List.mem_of_getElem? (i := 30) rfl)) (by decide) (by decide)) q146a q146c (g := (mkF m 147 #[.val (.int p0), .val (.int p1), .val (.int p2), .val (.int (p1 &&& (15 : Int32))), .val (.int (p2 &&& (15 : Int32))), .val (.int (0 : Int32)), .val (.ref b107), .val (.ref b109), .val (.ref b109), .val (.ref b114), .val (.ref b124), .val (.int (0 : Int32)), .val (.int (0 : Int32)), .val (.int (0 : Int32)), .val (.int (1 : Int32)), .val (.int (1 : Int32)), .val (.int (0 : Int32)), .unset] [(.ref b107), (.ref b114)])) rfl (by rw [hml]; rfl) (Steps.refl _) (argsL := [(.ref b107)]) (rest := []) (lenOf own_pd3 rfl) rfl (by show 2 * 0 + _ ≤ _; exact Nat.le_of_eq rfl) (hb hby at_147) (fun _ _ => ⟨rfl, e144, (by decide : 16 + 0 ≤ _), (by decide : 418 + 0 ≤ _)⟩)
    dsimp only [Pt.U, Pt.locs, Pt.cells, Pt.slots] at X146 l146 y146 z146 st146 hQ146
    subst l146 y146 z146
    obtain ⟨rfl, N146q, e146⟩ := hQ146
    have N146 := Fr.app N144 N146q
    obtain ⟨fs, hr, hrun, hended, hW, hsame⟩ := X146.leave (v := some (.int (1 : Int32))) (fun h => by rw [Bd.returns] at h; cases h)
    refine ⟨_, _, pre106 _ ?_, hrun, hended, _, _, rfl, ?_, ⟨_, rfl⟩, hW, hsame.mono (by decide) (by decide)⟩
    · show Steps p.tables e below (s₁.setTop (mkF m 14 #[.val (.int p0), .val (.int p1), .val (.int p2), .val (.int (p1 &&& (15 : Int32))), .val (.int (p2 &&& (15 : Int32))), .unset, .unset, .unset, .unset, .unset, .unset, .unset, .unset, .unset, .unset, .unset, .unset, .unset] [(.int (p0 &&& (1 : Int32)))])) _
      refine XS.ifYes X0.here hx rfl (pc0 := 14) (pc' := 21) rfl (hb hby at_14) rfl ((if0 _ _).trans (teq hc14).1) (by decide) (by decide) ?_
      show Steps p.tables e below (s₁.setTop (mkF m 21 #[.val (.int p0), .val (.int p1), .val (.int p2), .val (.int (p1 &&& (15 : Int32))), .val (.int (p2 &&& (15 : Int32))), .unset, .unset, .unset, .unset, .unset, .unset, .unset, .unset, .unset, .unset, .unset, .unset, .unset] [])) _
      refine XS.iconst X0.here hx rfl (hb hby at_21) ?_
      show Steps p.tables e below (s₁.setTop (mkF m 22 #[.val (.int p0), .val (.int p1), .val (.int p2), .val (.int (p1 &&& (15 : Int32))), .val (.int (p2 &&& (15 : Int32))), .unset, .unset, .unset, .unset, .unset, .unset, .unset, .unset, .unset, .unset, .unset, .unset, .unset] [(.int (0 : Int32))])) _
      refine XS.istore X0.here hx rfl (hb hby at_22) rfl (l' := #[.val (.int p0), .val (.int p1), .val (.int p2), .val (.int (p1 &&& (15 : Int32))), .val (.int (p2 &&& (15 : Int32))), .val (.int (0 : Int32)), .unset, .unset, .unset, .unset, .unset, .unset, .unset, .unset, .unset, .unset, .unset, .unset]) rfl ?_
      show Steps p.tables e below (s₁.setTop (mkF m 24 #[.val (.int p0), .val (.int p1), .val (.int p2), .val (.int (p1 &&& (15 : Int32))), .val (.int (p2 &&& (15 : Int32))), .val (.int (0 : Int32)), .unset, .unset, .unset, .unset, .unset, .unset, .unset, .unset, .unset, .unset, .unset, .unset] [])) _
      refine st107 _ ?_
      show Steps p.tables e below (T107.setTop (mkF m 27 #[.val (.int p0), .val (.int p1), .val (.int p2), .val (.int (p1 &&& (15 : Int32))), .val (.int (p2 &&& (15 : Int32))), .val (.int (0 : Int32)), .unset, .unset, .unset, .unset, .unset, .unset, .unset, .unset, .unset, .unset, .unset, .unset] [(.ref b107)])) _
      refine XS.dup X107.here hx rfl (hb hby at_27) rfl rfl ?_
      show Steps p.tables e below (T107.setTop (mkF m 28 #[.val (.int p0), .val (.int p1), .val (.int p2), .val (.int (p1 &&& (15 : Int32))), .val (.int (p2 &&& (15 : Int32))), .val (.int (0 : Int32)), .unset, .unset, .unset, .unset, .unset, .unset, .unset, .unset, .unset, .unset, .unset, .unset] [(.ref b107), (.ref b107)])) _
      refine st108.trans ?_
      show Steps p.tables e below (T108.setTop (mkF m 31 #[.val (.int p0), .val (.int p1), .val (.int p2), .val (.int (p1 &&& (15 : Int32))), .val (.int (p2 &&& (15 : Int32))), .val (.int (0 : Int32)), .unset, .unset, .unset, .unset, .unset, .unset, .unset, .unset, .unset, .unset, .unset, .unset] [(.ref b107)])) _
      refine XS.astore X108.here hx rfl (hb hby at_31) rfl rfl (l' := #[.val (.int p0), .val (.int p1), .val (.int p2), .val (.int (p1 &&& (15 : Int32))), .val (.int (p2 &&& (15 : Int32))), .val (.int (0 : Int32)), .val (.ref b107), .unset, .unset, .unset, .unset, .unset, .unset, .unset, .unset, .unset, .unset, .unset]) rfl ?_
      show Steps p.tables e below (T108.setTop (mkF m 33 #[.val (.int p0), .val (.int p1), .val (.int p2), .val (.int (p1 &&& (15 : Int32))), .val (.int (p2 &&& (15 : Int32))), .val (.int (0 : Int32)), .val (.ref b107), .unset, .unset, .unset, .unset, .unset, .unset, .unset, .unset, .unset, .unset, .unset] [])) _
      refine st109 _ ?_
      show Steps p.tables e below (T109.setTop (mkF m 36 #[.val (.int p0), .val (.int p1), .val (.int p2), .val (.int (p1 &&& (15 : Int32))), .val (.int (p2 &&& (15 : Int32))), .val (.int (0 : Int32)), .val (.ref b107), .unset, .unset, .unset, .unset, .unset, .unset, .unset, .unset, .unset, .unset, .unset] [(.ref b109)])) _
      refine XS.dup X109.here hx rfl (hb hby at_36) rfl rfl ?_
      show Steps p.tables e below (T109.setTop (mkF m 37 #[.val (.int p0), .val (.int p1), .val (.int p2), .val (.int (p1 &&& (15 : Int32))), .val (.int (p2 &&& (15 : Int32))), .val (.int (0 : Int32)), .val (.ref b107), .unset, .unset, .unset, .unset, .unset, .unset, .unset, .unset, .unset, .unset, .unset] [(.ref b109), (.ref b109)])) _
      refine st110.trans ?_
      show Steps p.tables e below (T110.setTop (mkF m 40 #[.val (.int p0), .val (.int p1), .val (.int p2), .val (.int (p1 &&& (15 : Int32))), .val (.int (p2 &&& (15 : Int32))), .val (.int (0 : Int32)), .val (.ref b107), .unset, .unset, .unset, .unset, .unset, .unset, .unset, .unset, .unset, .unset, .unset] [(.ref b109)])) _
      refine XS.astore X110.here hx rfl (hb hby at_40) rfl rfl (l' := #[.val (.int p0), .val (.int p1), .val (.int p2), .val (.int (p1 &&& (15 : Int32))), .val (.int (p2 &&& (15 : Int32))), .val (.int (0 : Int32)), .val (.ref b107), .val (.ref b109), .unset, .unset, .unset, .unset, .unset, .unset, .unset, .unset, .unset, .unset]) rfl ?_
      show Steps p.tables e below (T110.setTop (mkF m 42 #[.val (.int p0), .val (.int p1), .val (.int p2), .val (.int (p1 &&& (15 : Int32))), .val (.int (p2 &&& (15 : Int32))), .val (.int (0 : Int32)), .val (.ref b107), .val (.ref b109), .unset, .unset, .unset, .unset, .unset, .unset, .unset, .unset, .unset, .unset] [])) _
      refine XS.iload X110.here hx rfl (hb hby at_42) rfl ?_
      show Steps p.tables e below (T110.setTop (mkF m 44 #[.val (.int p0), .val (.int p1), .val (.int p2), .val (.int (p1 &&& (15 : Int32))), .val (.int (p2 &&& (15 : Int32))), .val (.int (0 : Int32)), .val (.ref b107), .val (.ref b109), .unset, .unset, .unset, .unset, .unset, .unset, .unset, .unset, .unset, .unset] [(.int (0 : Int32))])) _
      refine XS.ifYes X110.here hx rfl (pc0 := 44) (pc' := 52) rfl (hb hby at_44) rfl ((if0 _ _).trans (teq (by decide : ((0 : Int32) = (0 : Int32)))).1) (by decide) (by decide) ?_
      show Steps p.tables e below (T110.setTop (mkF m 52 #[.val (.int p0), .val (.int p1), .val (.int p2), .val (.int (p1 &&& (15 : Int32))), .val (.int (p2 &&& (15 : Int32))), .val (.int (0 : Int32)), .val (.ref b107), .val (.ref b109), .unset, .unset, .unset, .unset, .unset, .unset, .unset, .unset, .unset, .unset] [])) _
      refine XS.aload X110.here hx rfl (hb hby at_52) rfl rfl ?_
      show Steps p.tables e below (T110.setTop (mkF m 54 #[.val (.int p0), .val (.int p1), .val (.int p2), .val (.int (p1 &&& (15 : Int32))), .val (.int (p2 &&& (15 : Int32))), .val (.int (0 : Int32)), .val (.ref b107), .val (.ref b109), .unset, .unset, .unset, .unset, .unset, .unset, .unset, .unset, .unset, .unset] [(.ref b109)])) _
      refine XS.astore X110.here hx rfl (hb hby at_54) rfl rfl (l' := #[.val (.int p0), .val (.int p1), .val (.int p2), .val (.int (p1 &&& (15 : Int32))), .val (.int (p2 &&& (15 : Int32))), .val (.int (0 : Int32)), .val (.ref b107), .val (.ref b109), .val (.ref b109), .unset, .unset, .unset, .unset, .unset, .unset, .unset, .unset, .unset]) rfl ?_
      show Steps p.tables e below (T110.setTop (mkF m 56 #[.val (.int p0), .val (.int p1), .val (.int p2), .val (.int (p1 &&& (15 : Int32))), .val (.int (p2 &&& (15 : Int32))), .val (.int (0 : Int32)), .val (.ref b107), .val (.ref b109), .val (.ref b109), .unset, .unset, .unset, .unset, .unset, .unset, .unset, .unset, .unset] [])) _
      refine st114 _ ?_
      show Steps p.tables e below (T114.setTop (mkF m 59 #[.val (.int p0), .val (.int p1), .val (.int p2), .val (.int (p1 &&& (15 : Int32))), .val (.int (p2 &&& (15 : Int32))), .val (.int (0 : Int32)), .val (.ref b107), .val (.ref b109), .val (.ref b109), .unset, .unset, .unset, .unset, .unset, .unset, .unset, .unset, .unset] [(.ref b114)])) _
      refine XS.dup X114.here hx rfl (hb hby at_59) rfl rfl ?_
      show Steps p.tables e below (T114.setTop (mkF m 60 #[.val (.int p0), .val (.int p1), .val (.int p2), .val (.int (p1 &&& (15 : Int32))), .val (.int (p2 &&& (15 : Int32))), .val (.int (0 : Int32)), .val (.ref b107), .val (.ref b109), .val (.ref b109), .unset, .unset, .unset, .unset, .unset, .unset, .unset, .unset, .unset] [(.ref b114), (.ref b114)])) _
      refine XS.aload X114.here hx rfl (hb hby at_60) rfl rfl ?_
      show Steps p.tables e below (T114.setTop (mkF m 62 #[.val (.int p0), .val (.int p1), .val (.int p2), .val (.int (p1 &&& (15 : Int32))), .val (.int (p2 &&& (15 : Int32))), .val (.int (0 : Int32)), .val (.ref b107), .val (.ref b109), .val (.ref b109), .unset, .unset, .unset, .unset, .unset, .unset, .unset, .unset, .unset] [(.ref b107), (.ref b114), (.ref b114)])) _
      refine XS.iloadN X114.here hx rfl (hb hby at_62) rfl ?_
      show Steps p.tables e below (T114.setTop (mkF m 63 #[.val (.int p0), .val (.int p1), .val (.int p2), .val (.int (p1 &&& (15 : Int32))), .val (.int (p2 &&& (15 : Int32))), .val (.int (0 : Int32)), .val (.ref b107), .val (.ref b109), .val (.ref b109), .unset, .unset, .unset, .unset, .unset, .unset, .unset, .unset, .unset] [(.int (p1 &&& (15 : Int32))), (.ref b107), (.ref b114), (.ref b114)])) _
      refine st123.trans ?_
      show Steps p.tables e below (T123.setTop (mkF m 66 #[.val (.int p0), .val (.int p1), .val (.int p2), .val (.int (p1 &&& (15 : Int32))), .val (.int (p2 &&& (15 : Int32))), .val (.int (0 : Int32)), .val (.ref b107), .val (.ref b109), .val (.ref b109), .unset, .unset, .unset, .unset, .unset, .unset, .unset, .unset, .unset] [(.ref b114)])) _
      refine XS.astore X123.here hx rfl (hb hby at_66) rfl rfl (l' := #[.val (.int p0), .val (.int p1), .val (.int p2), .val (.int (p1 &&& (15 : Int32))), .val (.int (p2 &&& (15 : Int32))), .val (.int (0 : Int32)), .val (.ref b107), .val (.ref b109), .val (.ref b109), .val (.ref b114), .unset, .unset, .unset, .unset, .unset, .unset, .unset, .unset]) rfl ?_
      show Steps p.tables e below (T123.setTop (mkF m 68 #[.val (.int p0), .val (.int p1), .val (.int p2), .val (.int (p1 &&& (15 : Int32))), .val (.int (p2 &&& (15 : Int32))), .val (.int (0 : Int32)), .val (.ref b107), .val (.ref b109), .val (.ref b109), .val (.ref b114), .unset, .unset, .unset, .unset, .unset, .unset, .unset, .unset] [])) _
      refine st124 _ ?_
      show Steps p.tables e below (T124.setTop (mkF m 71 #[.val (.int p0), .val (.int p1), .val (.int p2), .val (.int (p1 &&& (15 : Int32))), .val (.int (p2 &&& (15 : Int32))), .val (.int (0 : Int32)), .val (.ref b107), .val (.ref b109), .val (.ref b109), .val (.ref b114), .unset, .unset, .unset, .unset, .unset, .unset, .unset, .unset] [(.ref b124)])) _
      refine XS.dup X124.here hx rfl (hb hby at_71) rfl rfl ?_
      show Steps p.tables e below (T124.setTop (mkF m 72 #[.val (.int p0), .val (.int p1), .val (.int p2), .val (.int (p1 &&& (15 : Int32))), .val (.int (p2 &&& (15 : Int32))), .val (.int (0 : Int32)), .val (.ref b107), .val (.ref b109), .val (.ref b109), .val (.ref b114), .unset, .unset, .unset, .unset, .unset, .unset, .unset, .unset] [(.ref b124), (.ref b124)])) _
      refine XS.aload X124.here hx rfl (hb hby at_72) rfl rfl ?_
      show Steps p.tables e below (T124.setTop (mkF m 74 #[.val (.int p0), .val (.int p1), .val (.int p2), .val (.int (p1 &&& (15 : Int32))), .val (.int (p2 &&& (15 : Int32))), .val (.int (0 : Int32)), .val (.ref b107), .val (.ref b109), .val (.ref b109), .val (.ref b114), .unset, .unset, .unset, .unset, .unset, .unset, .unset, .unset] [(.ref b109), (.ref b124), (.ref b124)])) _
      refine XS.iload X124.here hx rfl (hb hby at_74) rfl ?_
      show Steps p.tables e below (T124.setTop (mkF m 76 #[.val (.int p0), .val (.int p1), .val (.int p2), .val (.int (p1 &&& (15 : Int32))), .val (.int (p2 &&& (15 : Int32))), .val (.int (0 : Int32)), .val (.ref b107), .val (.ref b109), .val (.ref b109), .val (.ref b114), .unset, .unset, .unset, .unset, .unset, .unset, .unset, .unset] [(.int (p2 &&& (15 : Int32))), (.ref b109), (.ref b124), (.ref b124)])) _
      refine st136.trans ?_
      show Steps p.tables e below (T136.setTop (mkF m 79 #[.val (.int p0), .val (.int p1), .val (.int p2), .val (.int (p1 &&& (15 : Int32))), .val (.int (p2 &&& (15 : Int32))), .val (.int (0 : Int32)), .val (.ref b107), .val (.ref b109), .val (.ref b109), .val (.ref b114), .unset, .unset, .unset, .unset, .unset, .unset, .unset, .unset] [(.ref b124)])) _
      refine XS.astore X136.here hx rfl (hb hby at_79) rfl rfl (l' := #[.val (.int p0), .val (.int p1), .val (.int p2), .val (.int (p1 &&& (15 : Int32))), .val (.int (p2 &&& (15 : Int32))), .val (.int (0 : Int32)), .val (.ref b107), .val (.ref b109), .val (.ref b109), .val (.ref b114), .val (.ref b124), .unset, .unset, .unset, .unset, .unset, .unset, .unset]) rfl ?_
      show Steps p.tables e below (T136.setTop (mkF m 81 #[.val (.int p0), .val (.int p1), .val (.int p2), .val (.int (p1 &&& (15 : Int32))), .val (.int (p2 &&& (15 : Int32))), .val (.int (0 : Int32)), .val (.ref b107), .val (.ref b109), .val (.ref b109), .val (.ref b114), .val (.ref b124), .unset, .unset, .unset, .unset, .unset, .unset, .unset] [])) _
      refine XS.iload X136.here hx rfl (hb hby at_81) rfl ?_
      show Steps p.tables e below (T136.setTop (mkF m 83 #[.val (.int p0), .val (.int p1), .val (.int p2), .val (.int (p1 &&& (15 : Int32))), .val (.int (p2 &&& (15 : Int32))), .val (.int (0 : Int32)), .val (.ref b107), .val (.ref b109), .val (.ref b109), .val (.ref b114), .val (.ref b124), .unset, .unset, .unset, .unset, .unset, .unset, .unset] [(.int (0 : Int32))])) _
      refine XS.ifYes X136.here hx rfl (pc0 := 83) (pc' := 96) rfl (hb hby at_83) rfl ((if0 _ _).trans (teq (by decide : ((0 : Int32) = (0 : Int32)))).1) (by decide) (by decide) ?_
      show Steps p.tables e below (T136.setTop (mkF m 96 #[.val (.int p0), .val (.int p1), .val (.int p2), .val (.int (p1 &&& (15 : Int32))), .val (.int (p2 &&& (15 : Int32))), .val (.int (0 : Int32)), .val (.ref b107), .val (.ref b109), .val (.ref b109), .val (.ref b114), .val (.ref b124), .unset, .unset, .unset, .unset, .unset, .unset, .unset] [])) _
      refine XS.iconst X136.here hx rfl (hb hby at_96) ?_
      show Steps p.tables e below (T136.setTop (mkF m 97 #[.val (.int p0), .val (.int p1), .val (.int p2), .val (.int (p1 &&& (15 : Int32))), .val (.int (p2 &&& (15 : Int32))), .val (.int (0 : Int32)), .val (.ref b107), .val (.ref b109), .val (.ref b109), .val (.ref b114), .val (.ref b124), .unset, .unset, .unset, .unset, .unset, .unset, .unset] [(.int (0 : Int32))])) _
      refine XS.istore X136.here hx rfl (hb hby at_97) rfl (l' := #[.val (.int p0), .val (.int p1), .val (.int p2), .val (.int (p1 &&& (15 : Int32))), .val (.int (p2 &&& (15 : Int32))), .val (.int (0 : Int32)), .val (.ref b107), .val (.ref b109), .val (.ref b109), .val (.ref b114), .val (.ref b124), .val (.int (0 : Int32)), .unset, .unset, .unset, .unset, .unset, .unset]) rfl ?_
      show Steps p.tables e below (T136.setTop (mkF m 99 #[.val (.int p0), .val (.int p1), .val (.int p2), .val (.int (p1 &&& (15 : Int32))), .val (.int (p2 &&& (15 : Int32))), .val (.int (0 : Int32)), .val (.ref b107), .val (.ref b109), .val (.ref b109), .val (.ref b114), .val (.ref b124), .val (.int (0 : Int32)), .unset, .unset, .unset, .unset, .unset, .unset] [])) _
      refine XS.aload X136.here hx rfl (hb hby at_99) rfl rfl ?_
      show Steps p.tables e below (T136.setTop (mkF m 101 #[.val (.int p0), .val (.int p1), .val (.int p2), .val (.int (p1 &&& (15 : Int32))), .val (.int (p2 &&& (15 : Int32))), .val (.int (0 : Int32)), .val (.ref b107), .val (.ref b109), .val (.ref b109), .val (.ref b114), .val (.ref b124), .val (.int (0 : Int32)), .unset, .unset, .unset, .unset, .unset, .unset] [(.ref b114)])) _
      refine XS.aload X136.here hx rfl (hb hby at_101) rfl rfl ?_
      show Steps p.tables e below (T136.setTop (mkF m 103 #[.val (.int p0), .val (.int p1), .val (.int p2), .val (.int (p1 &&& (15 : Int32))), .val (.int (p2 &&& (15 : Int32))), .val (.int (0 : Int32)), .val (.ref b107), .val (.ref b109), .val (.ref b109), .val (.ref b114), .val (.ref b124), .val (.int (0 : Int32)), .unset, .unset, .unset, .unset, .unset, .unset] [(.ref b124), (.ref b114)])) _
      refine st140.trans ?_
      show Steps p.tables e below (T140.setTop (mkF m 106 #[.val (.int p0), .val (.int p1), .val (.int p2), .val (.int (p1 &&& (15 : Int32))), .val (.int (p2 &&& (15 : Int32))), .val (.int (0 : Int32)), .val (.ref b107), .val (.ref b109), .val (.ref b109), .val (.ref b114), .val (.ref b124), .val (.int (0 : Int32)), .unset, .unset, .unset, .unset, .unset, .unset] [(.int (0 : Int32))])) _
      refine XS.istore X140.here hx rfl (hb hby at_106) rfl (l' := #[.val (.int p0), .val (.int p1), .val (.int p2), .val (.int (p1 &&& (15 : Int32))), .val (.int (p2 &&& (15 : Int32))), .val (.int (0 : Int32)), .val (.ref b107), .val (.ref b109), .val (.ref b109), .val (.ref b114), .val (.ref b124), .val (.int (0 : Int32)), .val (.int (0 : Int32)), .unset, .unset, .unset, .unset, .unset]) rfl ?_
      show Steps p.tables e below (T140.setTop (mkF m 108 #[.val (.int p0), .val (.int p1), .val (.int p2), .val (.int (p1 &&& (15 : Int32))), .val (.int (p2 &&& (15 : Int32))), .val (.int (0 : Int32)), .val (.ref b107), .val (.ref b109), .val (.ref b109), .val (.ref b114), .val (.ref b124), .val (.int (0 : Int32)), .val (.int (0 : Int32)), .unset, .unset, .unset, .unset, .unset] [])) _
      refine XS.aload X140.here hx rfl (hb hby at_108) rfl rfl ?_
      show Steps p.tables e below (T140.setTop (mkF m 110 #[.val (.int p0), .val (.int p1), .val (.int p2), .val (.int (p1 &&& (15 : Int32))), .val (.int (p2 &&& (15 : Int32))), .val (.int (0 : Int32)), .val (.ref b107), .val (.ref b109), .val (.ref b109), .val (.ref b114), .val (.ref b124), .val (.int (0 : Int32)), .val (.int (0 : Int32)), .unset, .unset, .unset, .unset, .unset] [(.ref b124)])) _
      refine XS.aload X140.here hx rfl (hb hby at_110) rfl rfl ?_
      show Steps p.tables e below (T140.setTop (mkF m 112 #[.val (.int p0), .val (.int p1), .val (.int p2), .val (.int (p1 &&& (15 : Int32))), .val (.int (p2 &&& (15 : Int32))), .val (.int (0 : Int32)), .val (.ref b107), .val (.ref b109), .val (.ref b109), .val (.ref b114), .val (.ref b124), .val (.int (0 : Int32)), .val (.int (0 : Int32)), .unset, .unset, .unset, .unset, .unset] [(.ref b114), (.ref b124)])) _
      refine st141.trans ?_
      show Steps p.tables e below (T141.setTop (mkF m 115 #[.val (.int p0), .val (.int p1), .val (.int p2), .val (.int (p1 &&& (15 : Int32))), .val (.int (p2 &&& (15 : Int32))), .val (.int (0 : Int32)), .val (.ref b107), .val (.ref b109), .val (.ref b109), .val (.ref b114), .val (.ref b124), .val (.int (0 : Int32)), .val (.int (0 : Int32)), .unset, .unset, .unset, .unset, .unset] [(.int (0 : Int32))])) _
      refine XS.istore X141.here hx rfl (hb hby at_115) rfl (l' := #[.val (.int p0), .val (.int p1), .val (.int p2), .val (.int (p1 &&& (15 : Int32))), .val (.int (p2 &&& (15 : Int32))), .val (.int (0 : Int32)), .val (.ref b107), .val (.ref b109), .val (.ref b109), .val (.ref b114), .val (.ref b124), .val (.int (0 : Int32)), .val (.int (0 : Int32)), .val (.int (0 : Int32)), .unset, .unset, .unset, .unset]) rfl ?_
      show Steps p.tables e below (T141.setTop (mkF m 117 #[.val (.int p0), .val (.int p1), .val (.int p2), .val (.int (p1 &&& (15 : Int32))), .val (.int (p2 &&& (15 : Int32))), .val (.int (0 : Int32)), .val (.ref b107), .val (.ref b109), .val (.ref b109), .val (.ref b114), .val (.ref b124), .val (.int (0 : Int32)), .val (.int (0 : Int32)), .val (.int (0 : Int32)), .unset, .unset, .unset, .unset] [])) _
      refine XS.aload X141.here hx rfl (hb hby at_117) rfl rfl ?_
      show Steps p.tables e below (T141.setTop (mkF m 119 #[.val (.int p0), .val (.int p1), .val (.int p2), .val (.int (p1 &&& (15 : Int32))), .val (.int (p2 &&& (15 : Int32))), .val (.int (0 : Int32)), .val (.ref b107), .val (.ref b109), .val (.ref b109), .val (.ref b114), .val (.ref b124), .val (.int (0 : Int32)), .val (.int (0 : Int32)), .val (.int (0 : Int32)), .unset, .unset, .unset, .unset] [(.ref b114)])) _
      refine XS.aload X141.here hx rfl (hb hby at_119) rfl rfl ?_
      show Steps p.tables e below (T141.setTop (mkF m 121 #[.val (.int p0), .val (.int p1), .val (.int p2), .val (.int (p1 &&& (15 : Int32))), .val (.int (p2 &&& (15 : Int32))), .val (.int (0 : Int32)), .val (.ref b107), .val (.ref b109), .val (.ref b109), .val (.ref b114), .val (.ref b124), .val (.int (0 : Int32)), .val (.int (0 : Int32)), .val (.int (0 : Int32)), .unset, .unset, .unset, .unset] [(.ref b114), (.ref b114)])) _
      refine st142.trans ?_
      show Steps p.tables e below (T142.setTop (mkF m 124 #[.val (.int p0), .val (.int p1), .val (.int p2), .val (.int (p1 &&& (15 : Int32))), .val (.int (p2 &&& (15 : Int32))), .val (.int (0 : Int32)), .val (.ref b107), .val (.ref b109), .val (.ref b109), .val (.ref b114), .val (.ref b124), .val (.int (0 : Int32)), .val (.int (0 : Int32)), .val (.int (0 : Int32)), .unset, .unset, .unset, .unset] [(.int (1 : Int32))])) _
      refine XS.istore X142.here hx rfl (hb hby at_124) rfl (l' := #[.val (.int p0), .val (.int p1), .val (.int p2), .val (.int (p1 &&& (15 : Int32))), .val (.int (p2 &&& (15 : Int32))), .val (.int (0 : Int32)), .val (.ref b107), .val (.ref b109), .val (.ref b109), .val (.ref b114), .val (.ref b124), .val (.int (0 : Int32)), .val (.int (0 : Int32)), .val (.int (0 : Int32)), .val (.int (1 : Int32)), .unset, .unset, .unset]) rfl ?_
      show Steps p.tables e below (T142.setTop (mkF m 126 #[.val (.int p0), .val (.int p1), .val (.int p2), .val (.int (p1 &&& (15 : Int32))), .val (.int (p2 &&& (15 : Int32))), .val (.int (0 : Int32)), .val (.ref b107), .val (.ref b109), .val (.ref b109), .val (.ref b114), .val (.ref b124), .val (.int (0 : Int32)), .val (.int (0 : Int32)), .val (.int (0 : Int32)), .val (.int (1 : Int32)), .unset, .unset, .unset] [])) _
      refine XS.aload X142.here hx rfl (hb hby at_126) rfl rfl ?_
      show Steps p.tables e below (T142.setTop (mkF m 128 #[.val (.int p0), .val (.int p1), .val (.int p2), .val (.int (p1 &&& (15 : Int32))), .val (.int (p2 &&& (15 : Int32))), .val (.int (0 : Int32)), .val (.ref b107), .val (.ref b109), .val (.ref b109), .val (.ref b114), .val (.ref b124), .val (.int (0 : Int32)), .val (.int (0 : Int32)), .val (.int (0 : Int32)), .val (.int (1 : Int32)), .unset, .unset, .unset] [(.ref b124)])) _
      refine XS.aload X142.here hx rfl (hb hby at_128) rfl rfl ?_
      show Steps p.tables e below (T142.setTop (mkF m 130 #[.val (.int p0), .val (.int p1), .val (.int p2), .val (.int (p1 &&& (15 : Int32))), .val (.int (p2 &&& (15 : Int32))), .val (.int (0 : Int32)), .val (.ref b107), .val (.ref b109), .val (.ref b109), .val (.ref b114), .val (.ref b124), .val (.int (0 : Int32)), .val (.int (0 : Int32)), .val (.int (0 : Int32)), .val (.int (1 : Int32)), .unset, .unset, .unset] [(.ref b124), (.ref b124)])) _
      refine st143.trans ?_
      show Steps p.tables e below (T143.setTop (mkF m 133 #[.val (.int p0), .val (.int p1), .val (.int p2), .val (.int (p1 &&& (15 : Int32))), .val (.int (p2 &&& (15 : Int32))), .val (.int (0 : Int32)), .val (.ref b107), .val (.ref b109), .val (.ref b109), .val (.ref b114), .val (.ref b124), .val (.int (0 : Int32)), .val (.int (0 : Int32)), .val (.int (0 : Int32)), .val (.int (1 : Int32)), .unset, .unset, .unset] [(.int (1 : Int32))])) _
      refine XS.istore X143.here hx rfl (hb hby at_133) rfl (l' := #[.val (.int p0), .val (.int p1), .val (.int p2), .val (.int (p1 &&& (15 : Int32))), .val (.int (p2 &&& (15 : Int32))), .val (.int (0 : Int32)), .val (.ref b107), .val (.ref b109), .val (.ref b109), .val (.ref b114), .val (.ref b124), .val (.int (0 : Int32)), .val (.int (0 : Int32)), .val (.int (0 : Int32)), .val (.int (1 : Int32)), .val (.int (1 : Int32)), .unset, .unset]) rfl ?_
      show Steps p.tables e below (T143.setTop (mkF m 135 #[.val (.int p0), .val (.int p1), .val (.int p2), .val (.int (p1 &&& (15 : Int32))), .val (.int (p2 &&& (15 : Int32))), .val (.int (0 : Int32)), .val (.ref b107), .val (.ref b109), .val (.ref b109), .val (.ref b114), .val (.ref b124), .val (.int (0 : Int32)), .val (.int (0 : Int32)), .val (.int (0 : Int32)), .val (.int (1 : Int32)), .val (.int (1 : Int32)), .unset, .unset] [])) _
      refine XS.aload X143.here hx rfl (hb hby at_135) rfl rfl ?_
      show Steps p.tables e below (T143.setTop (mkF m 137 #[.val (.int p0), .val (.int p1), .val (.int p2), .val (.int (p1 &&& (15 : Int32))), .val (.int (p2 &&& (15 : Int32))), .val (.int (0 : Int32)), .val (.ref b107), .val (.ref b109), .val (.ref b109), .val (.ref b114), .val (.ref b124), .val (.int (0 : Int32)), .val (.int (0 : Int32)), .val (.int (0 : Int32)), .val (.int (1 : Int32)), .val (.int (1 : Int32)), .unset, .unset] [(.ref b114)])) _
      refine XS.aconstNull X143.here hx rfl (hb hby at_137) ?_
      show Steps p.tables e below (T143.setTop (mkF m 138 #[.val (.int p0), .val (.int p1), .val (.int p2), .val (.int (p1 &&& (15 : Int32))), .val (.int (p2 &&& (15 : Int32))), .val (.int (0 : Int32)), .val (.ref b107), .val (.ref b109), .val (.ref b109), .val (.ref b114), .val (.ref b124), .val (.int (0 : Int32)), .val (.int (0 : Int32)), .val (.int (0 : Int32)), .val (.int (1 : Int32)), .val (.int (1 : Int32)), .unset, .unset] [.null, (.ref b114)])) _
      refine st144.trans ?_
      show Steps p.tables e below (T144.setTop (mkF m 141 #[.val (.int p0), .val (.int p1), .val (.int p2), .val (.int (p1 &&& (15 : Int32))), .val (.int (p2 &&& (15 : Int32))), .val (.int (0 : Int32)), .val (.ref b107), .val (.ref b109), .val (.ref b109), .val (.ref b114), .val (.ref b124), .val (.int (0 : Int32)), .val (.int (0 : Int32)), .val (.int (0 : Int32)), .val (.int (1 : Int32)), .val (.int (1 : Int32)), .unset, .unset] [(.int (0 : Int32))])) _
      refine XS.istore X144.here hx rfl (hb hby at_141) rfl (l' := #[.val (.int p0), .val (.int p1), .val (.int p2), .val (.int (p1 &&& (15 : Int32))), .val (.int (p2 &&& (15 : Int32))), .val (.int (0 : Int32)), .val (.ref b107), .val (.ref b109), .val (.ref b109), .val (.ref b114), .val (.ref b124), .val (.int (0 : Int32)), .val (.int (0 : Int32)), .val (.int (0 : Int32)), .val (.int (1 : Int32)), .val (.int (1 : Int32)), .val (.int (0 : Int32)), .unset]) rfl ?_
      show Steps p.tables e below (T144.setTop (mkF m 143 #[.val (.int p0), .val (.int p1), .val (.int p2), .val (.int (p1 &&& (15 : Int32))), .val (.int (p2 &&& (15 : Int32))), .val (.int (0 : Int32)), .val (.ref b107), .val (.ref b109), .val (.ref b109), .val (.ref b114), .val (.ref b124), .val (.int (0 : Int32)), .val (.int (0 : Int32)), .val (.int (0 : Int32)), .val (.int (1 : Int32)), .val (.int (1 : Int32)), .val (.int (0 : Int32)), .unset] [])) _
      refine XS.aload X144.here hx rfl (hb hby at_143) rfl rfl ?_
      show Steps p.tables e below (T144.setTop (mkF m 145 #[.val (.int p0), .val (.int p1), .val (.int p2), .val (.int (p1 &&& (15 : Int32))), .val (.int (p2 &&& (15 : Int32))), .val (.int (0 : Int32)), .val (.ref b107), .val (.ref b109), .val (.ref b109), .val (.ref b114), .val (.ref b124), .val (.int (0 : Int32)), .val (.int (0 : Int32)), .val (.int (0 : Int32)), .val (.int (1 : Int32)), .val (.int (1 : Int32)), .val (.int (0 : Int32)), .unset] [(.ref b114)])) _
      refine XS.aload X144.here hx rfl (hb hby at_145) rfl rfl ?_
      show Steps p.tables e below (T144.setTop (mkF m 147 #[.val (.int p0), .val (.int p1), .val (.int p2), .val (.int (p1 &&& (15 : Int32))), .val (.int (p2 &&& (15 : Int32))), .val (.int (0 : Int32)), .val (.ref b107), .val (.ref b109), .val (.ref b109), .val (.ref b114), .val (.ref b124), .val (.int (0 : Int32)), .val (.int (0 : Int32)), .val (.int (0 : Int32)), .val (.int (1 : Int32)), .val (.int (1 : Int32)), .val (.int (0 : Int32)), .unset] [(.ref b107), (.ref b114)])) _
      refine st146.trans ?_
      show Steps p.tables e below (T146.setTop (mkF m 150 #[.val (.int p0), .val (.int p1), .val (.int p2), .val (.int (p1 &&& (15 : Int32))), .val (.int (p2 &&& (15 : Int32))), .val (.int (0 : Int32)), .val (.ref b107), .val (.ref b109), .val (.ref b109), .val (.ref b114), .val (.ref b124), .val (.int (0 : Int32)), .val (.int (0 : Int32)), .val (.int (0 : Int32)), .val (.int (1 : Int32)), .val (.int (1 : Int32)), .val (.int (0 : Int32)), .unset] [(.int (0 : Int32))])) _
      refine XS.istore X146.here hx rfl (hb hby at_150) rfl (l' := #[.val (.int p0), .val (.int p1), .val (.int p2), .val (.int (p1 &&& (15 : Int32))), .val (.int (p2 &&& (15 : Int32))), .val (.int (0 : Int32)), .val (.ref b107), .val (.ref b109), .val (.ref b109), .val (.ref b114), .val (.ref b124), .val (.int (0 : Int32)), .val (.int (0 : Int32)), .val (.int (0 : Int32)), .val (.int (1 : Int32)), .val (.int (1 : Int32)), .val (.int (0 : Int32)), .val (.int (0 : Int32))]) rfl ?_
      show Steps p.tables e below (T146.setTop (mkF m 152 #[.val (.int p0), .val (.int p1), .val (.int p2), .val (.int (p1 &&& (15 : Int32))), .val (.int (p2 &&& (15 : Int32))), .val (.int (0 : Int32)), .val (.ref b107), .val (.ref b109), .val (.ref b109), .val (.ref b114), .val (.ref b124), .val (.int (0 : Int32)), .val (.int (0 : Int32)), .val (.int (0 : Int32)), .val (.int (1 : Int32)), .val (.int (1 : Int32)), .val (.int (0 : Int32)), .val (.int (0 : Int32))] [])) _
      refine XS.iload X146.here hx rfl (hb hby at_152) rfl ?_
      show Steps p.tables e below (T146.setTop (mkF m 154 #[.val (.int p0), .val (.int p1), .val (.int p2), .val (.int (p1 &&& (15 : Int32))), .val (.int (p2 &&& (15 : Int32))), .val (.int (0 : Int32)), .val (.ref b107), .val (.ref b109), .val (.ref b109), .val (.ref b114), .val (.ref b124), .val (.int (0 : Int32)), .val (.int (0 : Int32)), .val (.int (0 : Int32)), .val (.int (1 : Int32)), .val (.int (1 : Int32)), .val (.int (0 : Int32)), .val (.int (0 : Int32))] [(.int (0 : Int32))])) _
      refine XS.iload X146.here hx rfl (hb hby at_154) rfl ?_
      show Steps p.tables e below (T146.setTop (mkF m 156 #[.val (.int p0), .val (.int p1), .val (.int p2), .val (.int (p1 &&& (15 : Int32))), .val (.int (p2 &&& (15 : Int32))), .val (.int (0 : Int32)), .val (.ref b107), .val (.ref b109), .val (.ref b109), .val (.ref b114), .val (.ref b124), .val (.int (0 : Int32)), .val (.int (0 : Int32)), .val (.int (0 : Int32)), .val (.int (1 : Int32)), .val (.int (1 : Int32)), .val (.int (0 : Int32)), .val (.int (0 : Int32))] [(.int (0 : Int32)), (.int (0 : Int32))])) _
      refine XS.icmpNo X146.here hx rfl (hb hby at_156) rfl (teq (by decide : ((0 : Int32) = (0 : Int32)))).2 ?_
      show Steps p.tables e below (T146.setTop (mkF m 159 #[.val (.int p0), .val (.int p1), .val (.int p2), .val (.int (p1 &&& (15 : Int32))), .val (.int (p2 &&& (15 : Int32))), .val (.int (0 : Int32)), .val (.ref b107), .val (.ref b109), .val (.ref b109), .val (.ref b114), .val (.ref b124), .val (.int (0 : Int32)), .val (.int (0 : Int32)), .val (.int (0 : Int32)), .val (.int (1 : Int32)), .val (.int (1 : Int32)), .val (.int (0 : Int32)), .val (.int (0 : Int32))] [])) _
      refine XS.iload X146.here hx rfl (hb hby at_159) rfl ?_
      show Steps p.tables e below (T146.setTop (mkF m 161 #[.val (.int p0), .val (.int p1), .val (.int p2), .val (.int (p1 &&& (15 : Int32))), .val (.int (p2 &&& (15 : Int32))), .val (.int (0 : Int32)), .val (.ref b107), .val (.ref b109), .val (.ref b109), .val (.ref b114), .val (.ref b124), .val (.int (0 : Int32)), .val (.int (0 : Int32)), .val (.int (0 : Int32)), .val (.int (1 : Int32)), .val (.int (1 : Int32)), .val (.int (0 : Int32)), .val (.int (0 : Int32))] [(.int (0 : Int32))])) _
      refine XS.iload X146.here hx rfl (hb hby at_161) rfl ?_
      show Steps p.tables e below (T146.setTop (mkF m 163 #[.val (.int p0), .val (.int p1), .val (.int p2), .val (.int (p1 &&& (15 : Int32))), .val (.int (p2 &&& (15 : Int32))), .val (.int (0 : Int32)), .val (.ref b107), .val (.ref b109), .val (.ref b109), .val (.ref b114), .val (.ref b124), .val (.int (0 : Int32)), .val (.int (0 : Int32)), .val (.int (0 : Int32)), .val (.int (1 : Int32)), .val (.int (1 : Int32)), .val (.int (0 : Int32)), .val (.int (0 : Int32))] [(.int (0 : Int32)), (.int (0 : Int32))])) _
      refine XS.icmpNo X146.here hx rfl (hb hby at_163) rfl (teq (by decide : ((0 : Int32) = (0 : Int32)))).2 ?_
      show Steps p.tables e below (T146.setTop (mkF m 166 #[.val (.int p0), .val (.int p1), .val (.int p2), .val (.int (p1 &&& (15 : Int32))), .val (.int (p2 &&& (15 : Int32))), .val (.int (0 : Int32)), .val (.ref b107), .val (.ref b109), .val (.ref b109), .val (.ref b114), .val (.ref b124), .val (.int (0 : Int32)), .val (.int (0 : Int32)), .val (.int (0 : Int32)), .val (.int (1 : Int32)), .val (.int (1 : Int32)), .val (.int (0 : Int32)), .val (.int (0 : Int32))] [])) _
      refine XS.iload X146.here hx rfl (hb hby at_166) rfl ?_
      show Steps p.tables e below (T146.setTop (mkF m 168 #[.val (.int p0), .val (.int p1), .val (.int p2), .val (.int (p1 &&& (15 : Int32))), .val (.int (p2 &&& (15 : Int32))), .val (.int (0 : Int32)), .val (.ref b107), .val (.ref b109), .val (.ref b109), .val (.ref b114), .val (.ref b124), .val (.int (0 : Int32)), .val (.int (0 : Int32)), .val (.int (0 : Int32)), .val (.int (1 : Int32)), .val (.int (1 : Int32)), .val (.int (0 : Int32)), .val (.int (0 : Int32))] [(.int (1 : Int32))])) _
      refine XS.ifNo X146.here hx rfl (hb hby at_168) rfl ((if0 _ _).trans (feq (by decide : ¬ ((1 : Int32) = (0 : Int32)))).1) ?_
      show Steps p.tables e below (T146.setTop (mkF m 171 #[.val (.int p0), .val (.int p1), .val (.int p2), .val (.int (p1 &&& (15 : Int32))), .val (.int (p2 &&& (15 : Int32))), .val (.int (0 : Int32)), .val (.ref b107), .val (.ref b109), .val (.ref b109), .val (.ref b114), .val (.ref b124), .val (.int (0 : Int32)), .val (.int (0 : Int32)), .val (.int (0 : Int32)), .val (.int (1 : Int32)), .val (.int (1 : Int32)), .val (.int (0 : Int32)), .val (.int (0 : Int32))] [])) _
      refine XS.iload X146.here hx rfl (hb hby at_171) rfl ?_
      show Steps p.tables e below (T146.setTop (mkF m 173 #[.val (.int p0), .val (.int p1), .val (.int p2), .val (.int (p1 &&& (15 : Int32))), .val (.int (p2 &&& (15 : Int32))), .val (.int (0 : Int32)), .val (.ref b107), .val (.ref b109), .val (.ref b109), .val (.ref b114), .val (.ref b124), .val (.int (0 : Int32)), .val (.int (0 : Int32)), .val (.int (0 : Int32)), .val (.int (1 : Int32)), .val (.int (1 : Int32)), .val (.int (0 : Int32)), .val (.int (0 : Int32))] [(.int (1 : Int32))])) _
      refine XS.ifNo X146.here hx rfl (hb hby at_173) rfl ((if0 _ _).trans (feq (by decide : ¬ ((1 : Int32) = (0 : Int32)))).1) ?_
      show Steps p.tables e below (T146.setTop (mkF m 176 #[.val (.int p0), .val (.int p1), .val (.int p2), .val (.int (p1 &&& (15 : Int32))), .val (.int (p2 &&& (15 : Int32))), .val (.int (0 : Int32)), .val (.ref b107), .val (.ref b109), .val (.ref b109), .val (.ref b114), .val (.ref b124), .val (.int (0 : Int32)), .val (.int (0 : Int32)), .val (.int (0 : Int32)), .val (.int (1 : Int32)), .val (.int (1 : Int32)), .val (.int (0 : Int32)), .val (.int (0 : Int32))] [])) _
      refine XS.iload X146.here hx rfl (hb hby at_176) rfl ?_
      show Steps p.tables e below (T146.setTop (mkF m 178 #[.val (.int p0), .val (.int p1), .val (.int p2), .val (.int (p1 &&& (15 : Int32))), .val (.int (p2 &&& (15 : Int32))), .val (.int (0 : Int32)), .val (.ref b107), .val (.ref b109), .val (.ref b109), .val (.ref b114), .val (.ref b124), .val (.int (0 : Int32)), .val (.int (0 : Int32)), .val (.int (0 : Int32)), .val (.int (1 : Int32)), .val (.int (1 : Int32)), .val (.int (0 : Int32)), .val (.int (0 : Int32))] [(.int (0 : Int32))])) _
      refine XS.ifNo X146.here hx rfl (hb hby at_178) rfl ((if0 _ _).trans (teq (by decide : ((0 : Int32) = (0 : Int32)))).2) ?_
      show Steps p.tables e below (T146.setTop (mkF m 181 #[.val (.int p0), .val (.int p1), .val (.int p2), .val (.int (p1 &&& (15 : Int32))), .val (.int (p2 &&& (15 : Int32))), .val (.int (0 : Int32)), .val (.ref b107), .val (.ref b109), .val (.ref b109), .val (.ref b114), .val (.ref b124), .val (.int (0 : Int32)), .val (.int (0 : Int32)), .val (.int (0 : Int32)), .val (.int (1 : Int32)), .val (.int (1 : Int32)), .val (.int (0 : Int32)), .val (.int (0 : Int32))] [])) _
      refine XS.iload X146.here hx rfl (hb hby at_181) rfl ?_
      show Steps p.tables e below (T146.setTop (mkF m 183 #[.val (.int p0), .val (.int p1), .val (.int p2), .val (.int (p1 &&& (15 : Int32))), .val (.int (p2 &&& (15 : Int32))), .val (.int (0 : Int32)), .val (.ref b107), .val (.ref b109), .val (.ref b109), .val (.ref b114), .val (.ref b124), .val (.int (0 : Int32)), .val (.int (0 : Int32)), .val (.int (0 : Int32)), .val (.int (1 : Int32)), .val (.int (1 : Int32)), .val (.int (0 : Int32)), .val (.int (0 : Int32))] [(.int (0 : Int32))])) _
      refine XS.ifNo X146.here hx rfl (hb hby at_183) rfl ((if0 _ _).trans (teq (by decide : ((0 : Int32) = (0 : Int32)))).2) ?_
      show Steps p.tables e below (T146.setTop (mkF m 186 #[.val (.int p0), .val (.int p1), .val (.int p2), .val (.int (p1 &&& (15 : Int32))), .val (.int (p2 &&& (15 : Int32))), .val (.int (0 : Int32)), .val (.ref b107), .val (.ref b109), .val (.ref b109), .val (.ref b114), .val (.ref b124), .val (.int (0 : Int32)), .val (.int (0 : Int32)), .val (.int (0 : Int32)), .val (.int (1 : Int32)), .val (.int (1 : Int32)), .val (.int (0 : Int32)), .val (.int (0 : Int32))] [])) _
      refine XS.iconst X146.here hx rfl (hb hby at_186) ?_
      show Steps p.tables e below (T146.setTop (mkF m 187 #[.val (.int p0), .val (.int p1), .val (.int p2), .val (.int (p1 &&& (15 : Int32))), .val (.int (p2 &&& (15 : Int32))), .val (.int (0 : Int32)), .val (.ref b107), .val (.ref b109), .val (.ref b109), .val (.ref b114), .val (.ref b124), .val (.int (0 : Int32)), .val (.int (0 : Int32)), .val (.int (0 : Int32)), .val (.int (1 : Int32)), .val (.int (1 : Int32)), .val (.int (0 : Int32)), .val (.int (0 : Int32))] [(.int (1 : Int32))])) _
      refine XS.goto X146.here hx rfl (pc0 := 187) (pc' := 191) rfl (hb hby at_187) (by decide) (by decide) ?_
      show Steps p.tables e below (T146.setTop (mkF m 191 #[.val (.int p0), .val (.int p1), .val (.int p2), .val (.int (p1 &&& (15 : Int32))), .val (.int (p2 &&& (15 : Int32))), .val (.int (0 : Int32)), .val (.ref b107), .val (.ref b109), .val (.ref b109), .val (.ref b114), .val (.ref b124), .val (.int (0 : Int32)), .val (.int (0 : Int32)), .val (.int (0 : Int32)), .val (.int (1 : Int32)), .val (.int (1 : Int32)), .val (.int (0 : Int32)), .val (.int (0 : Int32))] [(.int (1 : Int32))])) _
      exact retN X146 hx (t := .boolean) Bd.returns (by simp) (hb hby at_191) hr
    · show Q0 Z p0 p1 p2 h0 n0 _ T146.heap _
      rw [e146]
      exact ⟨rfl, N146⟩
  · obtain ⟨T147, h147, X147, e147, E147, A147, D147, -, st147⟩ := newO X0 hx hZ hown (hw _ (List.mem_of_getElem? (i := 0) rfl)) (hw _ (List.mem_of_getElem? (i := 1) rfl)) (hw _ (List.mem_of_getElem? (i := 2) rfl)) e0 (g := (mkF m 24 #[.val (.int p0), .val (.int p1), .val (.int p2), .val (.int (p1 &&& (15 : Int32))), .val (.int (p2 &&& (15 : Int32))), .val (.int (1 : Int32)), .unset, .unset, .unset, .unset, .unset, .unset, .unset, .unset, .unset, .unset, .unset, .unset] [])) rfl (hb hby at_24) (by decide) (by decide)
    obtain ⟨b147, g147⟩ : ∃ z, z = h0.size := ⟨_, rfl⟩
    rw [← g147] at A147 D147 st147
    have gg_b147 : n0 ≤ b147 := Nat.le_trans (Nat.le_trans Z0 K0.1) (Nat.le_of_eq g147.symm)
    have sz_b147 : h0.size ≤ b147 := Nat.le_trans K0.1 (Nat.le_of_eq g147.symm)
    have K147 := K0.ext E147
    have F147_root : Fld Z h147 b147 "com/example/path_acl_check/pathaclcheck/RecordTable" "root" "I" (.int (0 : Int32)) := D147 (Or.inl (hw _ (List.mem_of_getElem? (i := 10) rfl))) (ty := .int) (by decide)
    have F147_parents : Fld Z h147 b147 "com/example/path_acl_check/pathaclcheck/RecordTable" "parents" "[I" .null := D147 (Or.inl (hw _ (List.mem_of_getElem? (i := 13) rfl))) (ty := (.array .int)) (by decide)
    have F147_protectionNumbers : Fld Z h147 b147 "com/example/path_acl_check/pathaclcheck/RecordTable" "protectionNumbers" "[I" .null := D147 (Or.inl (hw _ (List.mem_of_getElem? (i := 15) rfl))) (ty := (.array .int)) (by decide)
    have F147_protections : Fld Z h147 b147 "com/example/path_acl_check/pathaclcheck/RecordTable" "protections" "[Lcom/example/path_acl_check/pathaclcheck/Protection;" .null := D147 (Or.inl (hw _ (List.mem_of_getElem? (i := 19) rfl))) (ty := (.array (.object "com/example/path_acl_check/pathaclcheck/Protection"))) (by decide)
    have F147_partEnds : Fld Z h147 b147 "com/example/path_acl_check/pathaclcheck/RecordTable" "partEnds" "[I" .null := D147 (Or.inl (hw _ (List.mem_of_getElem? (i := 21) rfl))) (ty := (.array .int)) (by decide)
    have F147_parts : Fld Z h147 b147 "com/example/path_acl_check/pathaclcheck/RecordTable" "parts" "[B" .null := D147 (Or.inl (hw _ (List.mem_of_getElem? (i := 24) rfl))) (ty := (.array .byte)) (by decide)
    have F147_slots : Fld Z h147 b147 "com/example/path_acl_check/pathaclcheck/RecordTable" "slots" "[J" .null := D147 (Or.inl (hw _ (List.mem_of_getElem? (i := 27) rfl))) (ty := (.array .long)) (by decide)
    obtain ⟨_, _, ⟨T148, L148, k148, n148⟩, -, X148, ⟨Lc148, hQ148, l148, y148, z148⟩, st148⟩ := X147.specialBack hx (y := (⟨"com/example/path_acl_check/pathaclcheck/RecordTable", "<init>", "()V"⟩ : MethodName)) rfl hown (mvT hZ (hw _ (List.mem_of_getElem? (i := 3) rfl))) (mvT hZ (hw _ (List.mem_of_getElem? (i := 4) rfl))) (mvT hZ (hw _ (List.mem_of_getElem? (i := 5) rfl))) (by decide) (backOf (W := 1) (rm1 l Z a0 hw [] b147 h147 n0 (Nat.le_trans Z0 K147.1) A147 F147_root F147_parents F147_protectionNumbers F147_protections F147_partEnds F147_parts F147_slots gg_b147) hZ (hw _ (List.mem_of_getElem? (i := 5) rfl)) (hw _ (List.mem_of_getElem? (i := 2) rfl)) (by decide) (by decide)) (g := (mkF m 28 #[.val (.int p0), .val (.int p1), .val (.int p2), .val (.int (p1 &&& (15 : Int32))), .val (.int (p2 &&& (15 : Int32))), .val (.int (1 : Int32)), .unset, .unset, .unset, .unset, .unset, .unset, .unset, .unset, .unset, .unset, .unset, .unset] [(.ref b147), (.ref b147)])) rfl (by rw [hml]; rfl) (Steps.refl _) (a := b147) (argsL := []) (rest := [(.ref b147)]) (lenOf own_pd1 rfl) rfl (by show 2 * 0 + _ ≤ _; exact Nat.le_of_eq rfl) (hb hby at_28) (fun _ _ => ⟨rfl, e147, (by decide : 1 + 6 ≤ _), (by decide : 13 + 192 ≤ _)⟩)
    dsimp only [Pt.U, Pt.locs, Pt.cells, Pt.slots] at X148 l148 y148 z148 st148 hQ148
    subst l148 y148 z148
    obtain ⟨b1_148, b2_148, k1_148, k2_148, rfl, N148q, i148_6, i148_7, i148_8, i148_9, i148_10, i148_11, i148_12, i148_13⟩ := hQ148
    have N148 := Fr.app N0 N148q
    have ne_b147_b1_148 : b147 ≠ b1_148 := Nat.ne_of_lt (Nat.lt_of_lt_of_le A147.lt i148_7)
    have gg_b1_148 : n0 ≤ b1_148 := Nat.le_trans (Nat.le_trans Z0 K147.1) i148_7
    have sz_b1_148 : h0.size ≤ b1_148 := Nat.le_trans K147.1 i148_7
    have ne_b147_b2_148 : b147 ≠ b2_148 := Nat.ne_of_lt (Nat.lt_of_lt_of_le A147.lt i148_8)
    have gg_b2_148 : n0 ≤ b2_148 := Nat.le_trans (Nat.le_trans Z0 K147.1) i148_8
    have sz_b2_148 : h0.size ≤ b2_148 := Nat.le_trans K147.1 i148_8
    have K148 := K147.trans i148_6 (allS (Or.inr sz_b147) all0)
    obtain ⟨T149, h149, X149, e149, E149, A149, D149, -, st149⟩ := newO X148 hx hZ hown (hw _ (List.mem_of_getElem? (i := 0) rfl)) (hw _ (List.mem_of_getElem? (i := 1) rfl)) (hw _ (List.mem_of_getElem? (i := 2) rfl)) rfl (g := (mkF m 33 #[.val (.int p0), .val (.int p1), .val (.int p2), .val (.int (p1 &&& (15 : Int32))), .val (.int (p2 &&& (15 : Int32))), .val (.int (1 : Int32)), .val (.ref b147), .unset, .unset, .unset, .unset, .unset, .unset, .unset, .unset, .unset, .unset, .unset] [])) rfl (hb hby at_33) (by decide) (by decide)
    obtain ⟨b149, g149⟩ : ∃ z, z = T148.heap.size := ⟨_, rfl⟩
    rw [← g149] at A149 D149 st149
    have ne_b147_b149 : b147 ≠ b149 := Nat.ne_of_lt (Nat.lt_of_lt_of_le i148_9.lt (Nat.le_of_eq g149.symm))
    have ne_b1_148_b149 : b1_148 ≠ b149 := Nat.ne_of_lt (Nat.lt_of_lt_of_le i148_12.lt (Nat.le_of_eq g149.symm))
    have ne_b2_148_b149 : b2_148 ≠ b149 := Nat.ne_of_lt (Nat.lt_of_lt_of_le i148_13.lt (Nat.le_of_eq g149.symm))
    have gg_b149 : n0 ≤ b149 := Nat.le_trans (Nat.le_trans Z0 K148.1) (Nat.le_of_eq g149.symm)
    have sz_b149 : h0.size ≤ b149 := Nat.le_trans K148.1 (Nat.le_of_eq g149.symm)
    have K149 := K148.ext E149
    have F149_root : Fld Z h149 b149 "com/example/path_acl_check/pathaclcheck/RecordTable" "root" "I" (.int (0 : Int32)) := D149 (Or.inl (hw _ (List.mem_of_getElem? (i := 10) rfl))) (ty := .int) (by decide)
    have F149_parents : Fld Z h149 b149 "com/example/path_acl_check/pathaclcheck/RecordTable" "parents" "[I" .null := D149 (Or.inl (hw _ (List.mem_of_getElem? (i := 13) rfl))) (ty := (.array .int)) (by decide)
    have F149_protectionNumbers : Fld Z h149 b149 "com/example/path_acl_check/pathaclcheck/RecordTable" "protectionNumbers" "[I" .null := D149 (Or.inl (hw _ (List.mem_of_getElem? (i := 15) rfl))) (ty := (.array .int)) (by decide)
    have F149_protections : Fld Z h149 b149 "com/example/path_acl_check/pathaclcheck/RecordTable" "protections" "[Lcom/example/path_acl_check/pathaclcheck/Protection;" .null := D149 (Or.inl (hw _ (List.mem_of_getElem? (i := 19) rfl))) (ty := (.array (.object "com/example/path_acl_check/pathaclcheck/Protection"))) (by decide)
    have F149_partEnds : Fld Z h149 b149 "com/example/path_acl_check/pathaclcheck/RecordTable" "partEnds" "[I" .null := D149 (Or.inl (hw _ (List.mem_of_getElem? (i := 21) rfl))) (ty := (.array .int)) (by decide)
    have F149_parts : Fld Z h149 b149 "com/example/path_acl_check/pathaclcheck/RecordTable" "parts" "[B" .null := D149 (Or.inl (hw _ (List.mem_of_getElem? (i := 24) rfl))) (ty := (.array .byte)) (by decide)
    have F149_slots : Fld Z h149 b149 "com/example/path_acl_check/pathaclcheck/RecordTable" "slots" "[J" .null := D149 (Or.inl (hw _ (List.mem_of_getElem? (i := 27) rfl))) (ty := (.array .long)) (by decide)
    obtain ⟨_, _, ⟨T150, L150, k150, n150⟩, -, X150, ⟨Lc150, hQ150, l150, y150, z150⟩, st150⟩ := X149.specialBack hx (y := (⟨"com/example/path_acl_check/pathaclcheck/RecordTable", "<init>", "()V"⟩ : MethodName)) rfl hown (mvT hZ (hw _ (List.mem_of_getElem? (i := 3) rfl))) (mvT hZ (hw _ (List.mem_of_getElem? (i := 4) rfl))) (mvT hZ (hw _ (List.mem_of_getElem? (i := 5) rfl))) (by decide) (backOf (W := 1) (rm1 l Z a0 hw [] b149 h149 n0 (Nat.le_trans Z0 K149.1) A149 F149_root F149_parents F149_protectionNumbers F149_protections F149_partEnds F149_parts F149_slots gg_b149) hZ (hw _ (List.mem_of_getElem? (i := 5) rfl)) (hw _ (List.mem_of_getElem? (i := 2) rfl)) (by decide) (by decide)) (g := (mkF m 37 #[.val (.int p0), .val (.int p1), .val (.int p2), .val (.int (p1 &&& (15 : Int32))), .val (.int (p2 &&& (15 : Int32))), .val (.int (1 : Int32)), .val (.ref b147), .unset, .unset, .unset, .unset, .unset, .unset, .unset, .unset, .unset, .unset, .unset] [(.ref b149), (.ref b149)])) rfl (by rw [hml]; rfl) (Steps.refl _) (a := b149) (argsL := []) (rest := [(.ref b149)]) (lenOf own_pd1 rfl) rfl (by show 2 * 0 + _ ≤ _; exact Nat.le_of_eq rfl) (hb hby at_37) (fun _ _ => ⟨rfl, e149, (by decide : 8 + 6 ≤ _), (by decide : 218 + 192 ≤ _)⟩)
    dsimp only [Pt.U, Pt.locs, Pt.cells, Pt.slots] at X150 l150 y150 z150 st150 hQ150
    subst l150 y150 z150
    obtain ⟨b1_150, b2_150, k1_150, k2_150, rfl, N150q, i150_6, i150_7, i150_8, i150_9, i150_10, i150_11, i150_12, i150_13⟩ := hQ150
    have N150 := Fr.app N148 N150q
    have Q151 := (i148_9.ext E149)
    have ne_b147_b1_150 : b147 ≠ b1_150 := Nat.ne_of_lt (Nat.lt_of_lt_of_le Q151.lt i150_7)
    have Q152 := (i148_12.ext E149)
    have ne_b1_148_b1_150 : b1_148 ≠ b1_150 := Nat.ne_of_lt (Nat.lt_of_lt_of_le Q152.lt i150_7)
    have Q153 := (i148_13.ext E149)
    have ne_b2_148_b1_150 : b2_148 ≠ b1_150 := Nat.ne_of_lt (Nat.lt_of_lt_of_le Q153.lt i150_7)
    have ne_b149_b1_150 : b149 ≠ b1_150 := Nat.ne_of_lt (Nat.lt_of_lt_of_le A149.lt i150_7)
    have gg_b1_150 : n0 ≤ b1_150 := Nat.le_trans (Nat.le_trans Z0 K149.1) i150_7
    have sz_b1_150 : h0.size ≤ b1_150 := Nat.le_trans K149.1 i150_7
    have ne_b147_b2_150 : b147 ≠ b2_150 := Nat.ne_of_lt (Nat.lt_of_lt_of_le Q151.lt i150_8)
    have ne_b1_148_b2_150 : b1_148 ≠ b2_150 := Nat.ne_of_lt (Nat.lt_of_lt_of_le Q152.lt i150_8)
    have ne_b2_148_b2_150 : b2_148 ≠ b2_150 := Nat.ne_of_lt (Nat.lt_of_lt_of_le Q153.lt i150_8)
    have ne_b149_b2_150 : b149 ≠ b2_150 := Nat.ne_of_lt (Nat.lt_of_lt_of_le A149.lt i150_8)
    have gg_b2_150 : n0 ≤ b2_150 := Nat.le_trans (Nat.le_trans Z0 K149.1) i150_8
    have sz_b2_150 : h0.size ≤ b2_150 := Nat.le_trans K149.1 i150_8
    have K150 := K149.trans i150_6 (allS (Or.inr sz_b149) all0)
    obtain ⟨T154, h154, X154, e154, E154, A154, D154, -, st154⟩ := newO X150 hx hZ hown (hw _ (List.mem_of_getElem? (i := 28) rfl)) (hw _ (List.mem_of_getElem? (i := 29) rfl)) (hw _ (List.mem_of_getElem? (i := 30) rfl)) rfl (g := (mkF m 56 #[.val (.int p0), .val (.int p1), .val (.int p2), .val (.int (p1 &&& (15 : Int32))), .val (.int (p2 &&& (15 : Int32))), .val (.int (1 : Int32)), .val (.ref b147), .val (.ref b149), .val (.ref b147), .unset, .unset, .unset, .unset, .unset, .unset, .unset, .unset, .unset] [])) rfl (hb hby at_56) (by decide) (by decide)
    obtain ⟨b154, g154⟩ : ∃ z, z = T150.heap.size := ⟨_, rfl⟩
    rw [← g154] at A154 D154 st154
    have Q155 := (Q151.keep i150_6)
    have ne_b147_b154 : b147 ≠ b154 := Nat.ne_of_lt (Nat.lt_of_lt_of_le Q155.lt (Nat.le_of_eq g154.symm))
    have Q156 := (Q152.keep i150_6 (ninS ne_b1_148_b149 nin0))
    have ne_b1_148_b154 : b1_148 ≠ b154 := Nat.ne_of_lt (Nat.lt_of_lt_of_le Q156.lt (Nat.le_of_eq g154.symm))
    have Q157 := (Q153.keep i150_6 (ninS ne_b2_148_b149 nin0))
    have ne_b2_148_b154 : b2_148 ≠ b154 := Nat.ne_of_lt (Nat.lt_of_lt_of_le Q157.lt (Nat.le_of_eq g154.symm))
    have ne_b149_b154 : b149 ≠ b154 := Nat.ne_of_lt (Nat.lt_of_lt_of_le i150_9.lt (Nat.le_of_eq g154.symm))
    have ne_b1_150_b154 : b1_150 ≠ b154 := Nat.ne_of_lt (Nat.lt_of_lt_of_le i150_12.lt (Nat.le_of_eq g154.symm))
    have ne_b2_150_b154 : b2_150 ≠ b154 := Nat.ne_of_lt (Nat.lt_of_lt_of_le i150_13.lt (Nat.le_of_eq g154.symm))
    have gg_b154 : n0 ≤ b154 := Nat.le_trans (Nat.le_trans Z0 K150.1) (Nat.le_of_eq g154.symm)
    have sz_b154 : h0.size ≤ b154 := Nat.le_trans K150.1 (Nat.le_of_eq g154.symm)
    have K154 := K150.ext E154
    have F154_table : Fld Z h154 b154 "com/example/path_acl_check/pathaclcheck/AclRecord" "table" "Lcom/example/path_acl_check/pathaclcheck/RecordTable;" .null := D154 (Or.inr (hw _ (List.mem_of_getElem? (i := 36) rfl))) (ty := (.object "com/example/path_acl_check/pathaclcheck/RecordTable")) (by decide)
    have F154_record : Fld Z h154 b154 "com/example/path_acl_check/pathaclcheck/AclRecord" "record" "I" (.int (0 : Int32)) := D154 (Or.inr (hw _ (List.mem_of_getElem? (i := 38) rfl))) (ty := .int) (by decide)
    have F154_childName : Fld Z h154 b154 "com/example/path_acl_check/pathaclcheck/AclRecord" "childName" "Ljava/lang/String;" .null := D154 (Or.inr (hw _ (List.mem_of_getElem? (i := 40) rfl))) (ty := (.object "java/lang/String")) (by decide)
    have F154_protection : Fld Z h154 b154 "com/example/path_acl_check/pathaclcheck/AclRecord" "protection" "Lcom/example/path_acl_check/pathaclcheck/Protection;" .null := D154 (Or.inr (hw _ (List.mem_of_getElem? (i := 47) rfl))) (ty := (.object "com/example/path_acl_check/pathaclcheck/Protection")) (by decide)
    have Q158 := (Q155.ext E154)
    have Q159 := (((i148_10.ext E149).keep i150_6 (ninS ne_b147_b149 nin0)).ext E154)
    have Q160 := (((i148_11.ext E149).keep i150_6 (ninS ne_b147_b149 nin0)).ext E154)
    have Q161 := (Q156.ext E154)
    have Q162 := (Q157.ext E154)
    obtain ⟨_, _, ⟨T163, L163, k163, n163⟩, -, X163, ⟨Lc163, hQ163, l163, y163, z163⟩, st163⟩ := X154.specialBack hx (y := (⟨"com/example/path_acl_check/pathaclcheck/AclRecord", "<init>", "(Lcom/example/path_acl_check/pathaclcheck/RecordTable;I)V"⟩ : MethodName)) rfl hown (mvT hZ (hw _ (List.mem_of_getElem? (i := 31) rfl))) (mvT hZ (hw _ (List.mem_of_getElem? (i := 32) rfl))) (mvT hZ (hw _ (List.mem_of_getElem? (i := 33) rfl))) (by decide) (backOf (W := 1) (rm2 l Z a0 hw [] b154 b147 (p1 &&& (15 : Int32)) b1_148 b2_148 k1_148 k2_148 h154 n0 (Nat.le_trans Z0 K154.1) A154 F154_table F154_record F154_childName F154_protection gg_b154 Q158 Q159 Q160 Q161 Q162 (own_ix p1) (Ne.symm ne_b147_b154) (Ne.symm ne_b1_148_b154) (Ne.symm ne_b2_148_b154)) hZ (hw _ (List.mem_of_getElem? (i := 33) rfl)) (hw _ (List.mem_of_getElem? (i := 30) rfl)) (by decide) (by decide)) (g := (mkF m 63 #[.val (.int p0), .val (.int p1), .val (.int p2), .val (.int (p1 &&& (15 : Int32))), .val (.int (p2 &&& (15 : Int32))), .val (.int (1 : Int32)), .val (.ref b147), .val (.ref b149), .val (.ref b147), .unset, .unset, .unset, .unset, .unset, .unset, .unset, .unset, .unset] [(.int (p1 &&& (15 : Int32))), (.ref b147), (.ref b154), (.ref b154)])) rfl (by rw [hml]; rfl) (Steps.refl _) (a := b154) (argsL := [(.ref b147), (.int (p1 &&& (15 : Int32)))]) (rest := [(.ref b154)]) (lenOf own_pd2 rfl) rfl (by show 2 * 0 + _ ≤ _; exact Nat.le_of_eq rfl) (hb hby at_63) (fun _ _ => ⟨rfl, e154, (by decide : 15 + 0 ≤ _), (by decide : 414 + 0 ≤ _)⟩)
    dsimp only [Pt.U, Pt.locs, Pt.cells, Pt.slots] at X163 l163 y163 z163 st163 hQ163
    subst l163 y163 z163
    obtain ⟨rfl, N163q, i163_2, i163_3, i163_4, i163_5⟩ := hQ163
    have N163 := Fr.app N150 N163q
    have K163 := K154.trans i163_2 (allS (Or.inr sz_b154) all0)
    obtain ⟨T164, h164, X164, e164, E164, A164, D164, -, st164⟩ := newO X163 hx hZ hown (hw _ (List.mem_of_getElem? (i := 28) rfl)) (hw _ (List.mem_of_getElem? (i := 29) rfl)) (hw _ (List.mem_of_getElem? (i := 30) rfl)) rfl (g := (mkF m 68 #[.val (.int p0), .val (.int p1), .val (.int p2), .val (.int (p1 &&& (15 : Int32))), .val (.int (p2 &&& (15 : Int32))), .val (.int (1 : Int32)), .val (.ref b147), .val (.ref b149), .val (.ref b147), .val (.ref b154), .unset, .unset, .unset, .unset, .unset, .unset, .unset, .unset] [])) rfl (hb hby at_68) (by decide) (by decide)
    obtain ⟨b164, g164⟩ : ∃ z, z = T163.heap.size := ⟨_, rfl⟩
    rw [← g164] at A164 D164 st164
    have Q165 := (Q158.keep i163_2)
    have ne_b147_b164 : b147 ≠ b164 := Nat.ne_of_lt (Nat.lt_of_lt_of_le Q165.lt (Nat.le_of_eq g164.symm))
    have Q166 := (Q161.keep i163_2 (ninS ne_b1_148_b154 nin0))
    have ne_b1_148_b164 : b1_148 ≠ b164 := Nat.ne_of_lt (Nat.lt_of_lt_of_le Q166.lt (Nat.le_of_eq g164.symm))
    have Q167 := (Q162.keep i163_2 (ninS ne_b2_148_b154 nin0))
    have ne_b2_148_b164 : b2_148 ≠ b164 := Nat.ne_of_lt (Nat.lt_of_lt_of_le Q167.lt (Nat.le_of_eq g164.symm))
    have Q168 := ((i150_9.ext E154).keep i163_2)
    have ne_b149_b164 : b149 ≠ b164 := Nat.ne_of_lt (Nat.lt_of_lt_of_le Q168.lt (Nat.le_of_eq g164.symm))
    have Q169 := ((i150_12.ext E154).keep i163_2 (ninS ne_b1_150_b154 nin0))
    have ne_b1_150_b164 : b1_150 ≠ b164 := Nat.ne_of_lt (Nat.lt_of_lt_of_le Q169.lt (Nat.le_of_eq g164.symm))
    have Q170 := ((i150_13.ext E154).keep i163_2 (ninS ne_b2_150_b154 nin0))
    have ne_b2_150_b164 : b2_150 ≠ b164 := Nat.ne_of_lt (Nat.lt_of_lt_of_le Q170.lt (Nat.le_of_eq g164.symm))
    have ne_b154_b164 : b154 ≠ b164 := Nat.ne_of_lt (Nat.lt_of_lt_of_le i163_3.lt (Nat.le_of_eq g164.symm))
    have gg_b164 : n0 ≤ b164 := Nat.le_trans (Nat.le_trans Z0 K163.1) (Nat.le_of_eq g164.symm)
    have sz_b164 : h0.size ≤ b164 := Nat.le_trans K163.1 (Nat.le_of_eq g164.symm)
    have K164 := K163.ext E164
    have F164_table : Fld Z h164 b164 "com/example/path_acl_check/pathaclcheck/AclRecord" "table" "Lcom/example/path_acl_check/pathaclcheck/RecordTable;" .null := D164 (Or.inr (hw _ (List.mem_of_getElem? (i := 36) rfl))) (ty := (.object "com/example/path_acl_check/pathaclcheck/RecordTable")) (by decide)
    have F164_record : Fld Z h164 b164 "com/example/path_acl_check/pathaclcheck/AclRecord" "record" "I" (.int (0 : Int32)) := D164 (Or.inr (hw _ (List.mem_of_getElem? (i := 38) rfl))) (ty := .int) (by decide)
    have F164_childName : Fld Z h164 b164 "com/example/path_acl_check/pathaclcheck/AclRecord" "childName" "Ljava/lang/String;" .null := D164 (Or.inr (hw _ (List.mem_of_getElem? (i := 40) rfl))) (ty := (.object "java/lang/String")) (by decide)
    have F164_protection : Fld Z h164 b164 "com/example/path_acl_check/pathaclcheck/AclRecord" "protection" "Lcom/example/path_acl_check/pathaclcheck/Protection;" .null := D164 (Or.inr (hw _ (List.mem_of_getElem? (i := 47) rfl))) (ty := (.object "com/example/path_acl_check/pathaclcheck/Protection")) (by decide)
    have Q171 := (Q165.ext E164)
    have Q172 := ((Q159.keep i163_2 (ninS ne_b147_b154 nin0)).ext E164)
    have Q173 := ((Q160.keep i163_2 (ninS ne_b147_b154 nin0)).ext E164)
    have Q174 := (Q166.ext E164)
    have Q175 := (Q167.ext E164)
    obtain ⟨_, _, ⟨T176, L176, k176, n176⟩, -, X176, ⟨Lc176, hQ176, l176, y176, z176⟩, st176⟩ := X164.specialBack hx (y := (⟨"com/example/path_acl_check/pathaclcheck/AclRecord", "<init>", "(Lcom/example/path_acl_check/pathaclcheck/RecordTable;I)V"⟩ : MethodName)) rfl hown (mvT hZ (hw _ (List.mem_of_getElem? (i := 31) rfl))) (mvT hZ (hw _ (List.mem_of_getElem? (i := 32) rfl))) (mvT hZ (hw _ (List.mem_of_getElem? (i := 33) rfl))) (by decide) (backOf (W := 1) (rm2 l Z a0 hw [] b164 b147 (p2 &&& (15 : Int32)) b1_148 b2_148 k1_148 k2_148 h164 n0 (Nat.le_trans Z0 K164.1) A164 F164_table F164_record F164_childName F164_protection gg_b164 Q171 Q172 Q173 Q174 Q175 (own_ix p2) (Ne.symm ne_b147_b164) (Ne.symm ne_b1_148_b164) (Ne.symm ne_b2_148_b164)) hZ (hw _ (List.mem_of_getElem? (i := 33) rfl)) (hw _ (List.mem_of_getElem? (i := 30) rfl)) (by decide) (by decide)) (g := (mkF m 76 #[.val (.int p0), .val (.int p1), .val (.int p2), .val (.int (p1 &&& (15 : Int32))), .val (.int (p2 &&& (15 : Int32))), .val (.int (1 : Int32)), .val (.ref b147), .val (.ref b149), .val (.ref b147), .val (.ref b154), .unset, .unset, .unset, .unset, .unset, .unset, .unset, .unset] [(.int (p2 &&& (15 : Int32))), (.ref b147), (.ref b164), (.ref b164)])) rfl (by rw [hml]; rfl) (Steps.refl _) (a := b164) (argsL := [(.ref b147), (.int (p2 &&& (15 : Int32)))]) (rest := [(.ref b164)]) (lenOf own_pd2 rfl) rfl (by show 2 * 0 + _ ≤ _; exact Nat.le_of_eq rfl) (hb hby at_76) (fun _ _ => ⟨rfl, e164, (by decide : 16 + 0 ≤ _), (by decide : 418 + 0 ≤ _)⟩)
    dsimp only [Pt.U, Pt.locs, Pt.cells, Pt.slots] at X176 l176 y176 z176 st176 hQ176
    subst l176 y176 z176
    obtain ⟨rfl, N176q, i176_2, i176_3, i176_4, i176_5⟩ := hQ176
    have N176 := Fr.app N163 N176q
    have K176 := K164.trans i176_2 (allS (Or.inr sz_b164) all0)
    have pre177 : ∀ t, Steps p.tables e below (T176.setTop (mkF m 89 #[.val (.int p0), .val (.int p1), .val (.int p2), .val (.int (p1 &&& (15 : Int32))), .val (.int (p2 &&& (15 : Int32))), .val (.int (1 : Int32)), .val (.ref b147), .val (.ref b149), .val (.ref b147), .val (.ref b154), .val (.ref b164), .unset, .unset, .unset, .unset, .unset, .unset, .unset] [(.int (p2 &&& (15 : Int32))), (.int (p1 &&& (15 : Int32)))])) t → Steps p.tables e below (s₁.setTop (entryFrame m #[(.int p0), (.int p1), (.int p2)] maxLocals)) t := fun t k => by
      refine pre106 _ ?_
      show Steps p.tables e below (s₁.setTop (mkF m 14 #[.val (.int p0), .val (.int p1), .val (.int p2), .val (.int (p1 &&& (15 : Int32))), .val (.int (p2 &&& (15 : Int32))), .unset, .unset, .unset, .unset, .unset, .unset, .unset, .unset, .unset, .unset, .unset, .unset, .unset] [(.int (p0 &&& (1 : Int32)))])) _
      refine XS.ifNo X0.here hx rfl (hb hby at_14) rfl ((if0 _ _).trans (feq hc14).1) ?_
      show Steps p.tables e below (s₁.setTop (mkF m 17 #[.val (.int p0), .val (.int p1), .val (.int p2), .val (.int (p1 &&& (15 : Int32))), .val (.int (p2 &&& (15 : Int32))), .unset, .unset, .unset, .unset, .unset, .unset, .unset, .unset, .unset, .unset, .unset, .unset, .unset] [])) _
      refine XS.iconst X0.here hx rfl (hb hby at_17) ?_
      show Steps p.tables e below (s₁.setTop (mkF m 18 #[.val (.int p0), .val (.int p1), .val (.int p2), .val (.int (p1 &&& (15 : Int32))), .val (.int (p2 &&& (15 : Int32))), .unset, .unset, .unset, .unset, .unset, .unset, .unset, .unset, .unset, .unset, .unset, .unset, .unset] [(.int (1 : Int32))])) _
      refine XS.goto X0.here hx rfl (pc0 := 18) (pc' := 22) rfl (hb hby at_18) (by decide) (by decide) ?_
      show Steps p.tables e below (s₁.setTop (mkF m 22 #[.val (.int p0), .val (.int p1), .val (.int p2), .val (.int (p1 &&& (15 : Int32))), .val (.int (p2 &&& (15 : Int32))), .unset, .unset, .unset, .unset, .unset, .unset, .unset, .unset, .unset, .unset, .unset, .unset, .unset] [(.int (1 : Int32))])) _
      refine XS.istore X0.here hx rfl (hb hby at_22) rfl (l' := #[.val (.int p0), .val (.int p1), .val (.int p2), .val (.int (p1 &&& (15 : Int32))), .val (.int (p2 &&& (15 : Int32))), .val (.int (1 : Int32)), .unset, .unset, .unset, .unset, .unset, .unset, .unset, .unset, .unset, .unset, .unset, .unset]) rfl ?_
      show Steps p.tables e below (s₁.setTop (mkF m 24 #[.val (.int p0), .val (.int p1), .val (.int p2), .val (.int (p1 &&& (15 : Int32))), .val (.int (p2 &&& (15 : Int32))), .val (.int (1 : Int32)), .unset, .unset, .unset, .unset, .unset, .unset, .unset, .unset, .unset, .unset, .unset, .unset] [])) _
      refine st147 _ ?_
      show Steps p.tables e below (T147.setTop (mkF m 27 #[.val (.int p0), .val (.int p1), .val (.int p2), .val (.int (p1 &&& (15 : Int32))), .val (.int (p2 &&& (15 : Int32))), .val (.int (1 : Int32)), .unset, .unset, .unset, .unset, .unset, .unset, .unset, .unset, .unset, .unset, .unset, .unset] [(.ref b147)])) _
      refine XS.dup X147.here hx rfl (hb hby at_27) rfl rfl ?_
      show Steps p.tables e below (T147.setTop (mkF m 28 #[.val (.int p0), .val (.int p1), .val (.int p2), .val (.int (p1 &&& (15 : Int32))), .val (.int (p2 &&& (15 : Int32))), .val (.int (1 : Int32)), .unset, .unset, .unset, .unset, .unset, .unset, .unset, .unset, .unset, .unset, .unset, .unset] [(.ref b147), (.ref b147)])) _
      refine st148.trans ?_
      show Steps p.tables e below (T148.setTop (mkF m 31 #[.val (.int p0), .val (.int p1), .val (.int p2), .val (.int (p1 &&& (15 : Int32))), .val (.int (p2 &&& (15 : Int32))), .val (.int (1 : Int32)), .unset, .unset, .unset, .unset, .unset, .unset, .unset, .unset, .unset, .unset, .unset, .unset] [(.ref b147)])) _
      refine XS.astore X148.here hx rfl (hb hby at_31) rfl rfl (l' := #[.val (.int p0), .val (.int p1), .val (.int p2), .val (.int (p1 &&& (15 : Int32))), .val (.int (p2 &&& (15 : Int32))), .val (.int (1 : Int32)), .val (.ref b147), .unset, .unset, .unset, .unset, .unset, .unset, .unset, .unset, .unset, .unset, .unset]) rfl ?_
      show Steps p.tables e below (T148.setTop (mkF m 33 #[.val (.int p0), .val (.int p1), .val (.int p2), .val (.int (p1 &&& (15 : Int32))), .val (.int (p2 &&& (15 : Int32))), .val (.int (1 : Int32)), .val (.ref b147), .unset, .unset, .unset, .unset, .unset, .unset, .unset, .unset, .unset, .unset, .unset] [])) _
      refine st149 _ ?_
      show Steps p.tables e below (T149.setTop (mkF m 36 #[.val (.int p0), .val (.int p1), .val (.int p2), .val (.int (p1 &&& (15 : Int32))), .val (.int (p2 &&& (15 : Int32))), .val (.int (1 : Int32)), .val (.ref b147), .unset, .unset, .unset, .unset, .unset, .unset, .unset, .unset, .unset, .unset, .unset] [(.ref b149)])) _
      refine XS.dup X149.here hx rfl (hb hby at_36) rfl rfl ?_
      show Steps p.tables e below (T149.setTop (mkF m 37 #[.val (.int p0), .val (.int p1), .val (.int p2), .val (.int (p1 &&& (15 : Int32))), .val (.int (p2 &&& (15 : Int32))), .val (.int (1 : Int32)), .val (.ref b147), .unset, .unset, .unset, .unset, .unset, .unset, .unset, .unset, .unset, .unset, .unset] [(.ref b149), (.ref b149)])) _
      refine st150.trans ?_
      show Steps p.tables e below (T150.setTop (mkF m 40 #[.val (.int p0), .val (.int p1), .val (.int p2), .val (.int (p1 &&& (15 : Int32))), .val (.int (p2 &&& (15 : Int32))), .val (.int (1 : Int32)), .val (.ref b147), .unset, .unset, .unset, .unset, .unset, .unset, .unset, .unset, .unset, .unset, .unset] [(.ref b149)])) _
      refine XS.astore X150.here hx rfl (hb hby at_40) rfl rfl (l' := #[.val (.int p0), .val (.int p1), .val (.int p2), .val (.int (p1 &&& (15 : Int32))), .val (.int (p2 &&& (15 : Int32))), .val (.int (1 : Int32)), .val (.ref b147), .val (.ref b149), .unset, .unset, .unset, .unset, .unset, .unset, .unset, .unset, .unset, .unset]) rfl ?_
      show Steps p.tables e below (T150.setTop (mkF m 42 #[.val (.int p0), .val (.int p1), .val (.int p2), .val (.int (p1 &&& (15 : Int32))), .val (.int (p2 &&& (15 : Int32))), .val (.int (1 : Int32)), .val (.ref b147), .val (.ref b149), .unset, .unset, .unset, .unset, .unset, .unset, .unset, .unset, .unset, .unset] [])) _
      refine XS.iload X150.here hx rfl (hb hby at_42) rfl ?_
      show Steps p.tables e below (T150.setTop (mkF m 44 #[.val (.int p0), .val (.int p1), .val (.int p2), .val (.int (p1 &&& (15 : Int32))), .val (.int (p2 &&& (15 : Int32))), .val (.int (1 : Int32)), .val (.ref b147), .val (.ref b149), .unset, .unset, .unset, .unset, .unset, .unset, .unset, .unset, .unset, .unset] [(.int (1 : Int32))])) _
      refine XS.ifNo X150.here hx rfl (hb hby at_44) rfl ((if0 _ _).trans (feq (by decide : ¬ ((1 : Int32) = (0 : Int32)))).1) ?_
      show Steps p.tables e below (T150.setTop (mkF m 47 #[.val (.int p0), .val (.int p1), .val (.int p2), .val (.int (p1 &&& (15 : Int32))), .val (.int (p2 &&& (15 : Int32))), .val (.int (1 : Int32)), .val (.ref b147), .val (.ref b149), .unset, .unset, .unset, .unset, .unset, .unset, .unset, .unset, .unset, .unset] [])) _
      refine XS.aload X150.here hx rfl (hb hby at_47) rfl rfl ?_
      show Steps p.tables e below (T150.setTop (mkF m 49 #[.val (.int p0), .val (.int p1), .val (.int p2), .val (.int (p1 &&& (15 : Int32))), .val (.int (p2 &&& (15 : Int32))), .val (.int (1 : Int32)), .val (.ref b147), .val (.ref b149), .unset, .unset, .unset, .unset, .unset, .unset, .unset, .unset, .unset, .unset] [(.ref b147)])) _
      refine XS.goto X150.here hx rfl (pc0 := 49) (pc' := 54) rfl (hb hby at_49) (by decide) (by decide) ?_
      show Steps p.tables e below (T150.setTop (mkF m 54 #[.val (.int p0), .val (.int p1), .val (.int p2), .val (.int (p1 &&& (15 : Int32))), .val (.int (p2 &&& (15 : Int32))), .val (.int (1 : Int32)), .val (.ref b147), .val (.ref b149), .unset, .unset, .unset, .unset, .unset, .unset, .unset, .unset, .unset, .unset] [(.ref b147)])) _
      refine XS.astore X150.here hx rfl (hb hby at_54) rfl rfl (l' := #[.val (.int p0), .val (.int p1), .val (.int p2), .val (.int (p1 &&& (15 : Int32))), .val (.int (p2 &&& (15 : Int32))), .val (.int (1 : Int32)), .val (.ref b147), .val (.ref b149), .val (.ref b147), .unset, .unset, .unset, .unset, .unset, .unset, .unset, .unset, .unset]) rfl ?_
      show Steps p.tables e below (T150.setTop (mkF m 56 #[.val (.int p0), .val (.int p1), .val (.int p2), .val (.int (p1 &&& (15 : Int32))), .val (.int (p2 &&& (15 : Int32))), .val (.int (1 : Int32)), .val (.ref b147), .val (.ref b149), .val (.ref b147), .unset, .unset, .unset, .unset, .unset, .unset, .unset, .unset, .unset] [])) _
      refine st154 _ ?_
      show Steps p.tables e below (T154.setTop (mkF m 59 #[.val (.int p0), .val (.int p1), .val (.int p2), .val (.int (p1 &&& (15 : Int32))), .val (.int (p2 &&& (15 : Int32))), .val (.int (1 : Int32)), .val (.ref b147), .val (.ref b149), .val (.ref b147), .unset, .unset, .unset, .unset, .unset, .unset, .unset, .unset, .unset] [(.ref b154)])) _
      refine XS.dup X154.here hx rfl (hb hby at_59) rfl rfl ?_
      show Steps p.tables e below (T154.setTop (mkF m 60 #[.val (.int p0), .val (.int p1), .val (.int p2), .val (.int (p1 &&& (15 : Int32))), .val (.int (p2 &&& (15 : Int32))), .val (.int (1 : Int32)), .val (.ref b147), .val (.ref b149), .val (.ref b147), .unset, .unset, .unset, .unset, .unset, .unset, .unset, .unset, .unset] [(.ref b154), (.ref b154)])) _
      refine XS.aload X154.here hx rfl (hb hby at_60) rfl rfl ?_
      show Steps p.tables e below (T154.setTop (mkF m 62 #[.val (.int p0), .val (.int p1), .val (.int p2), .val (.int (p1 &&& (15 : Int32))), .val (.int (p2 &&& (15 : Int32))), .val (.int (1 : Int32)), .val (.ref b147), .val (.ref b149), .val (.ref b147), .unset, .unset, .unset, .unset, .unset, .unset, .unset, .unset, .unset] [(.ref b147), (.ref b154), (.ref b154)])) _
      refine XS.iloadN X154.here hx rfl (hb hby at_62) rfl ?_
      show Steps p.tables e below (T154.setTop (mkF m 63 #[.val (.int p0), .val (.int p1), .val (.int p2), .val (.int (p1 &&& (15 : Int32))), .val (.int (p2 &&& (15 : Int32))), .val (.int (1 : Int32)), .val (.ref b147), .val (.ref b149), .val (.ref b147), .unset, .unset, .unset, .unset, .unset, .unset, .unset, .unset, .unset] [(.int (p1 &&& (15 : Int32))), (.ref b147), (.ref b154), (.ref b154)])) _
      refine st163.trans ?_
      show Steps p.tables e below (T163.setTop (mkF m 66 #[.val (.int p0), .val (.int p1), .val (.int p2), .val (.int (p1 &&& (15 : Int32))), .val (.int (p2 &&& (15 : Int32))), .val (.int (1 : Int32)), .val (.ref b147), .val (.ref b149), .val (.ref b147), .unset, .unset, .unset, .unset, .unset, .unset, .unset, .unset, .unset] [(.ref b154)])) _
      refine XS.astore X163.here hx rfl (hb hby at_66) rfl rfl (l' := #[.val (.int p0), .val (.int p1), .val (.int p2), .val (.int (p1 &&& (15 : Int32))), .val (.int (p2 &&& (15 : Int32))), .val (.int (1 : Int32)), .val (.ref b147), .val (.ref b149), .val (.ref b147), .val (.ref b154), .unset, .unset, .unset, .unset, .unset, .unset, .unset, .unset]) rfl ?_
      show Steps p.tables e below (T163.setTop (mkF m 68 #[.val (.int p0), .val (.int p1), .val (.int p2), .val (.int (p1 &&& (15 : Int32))), .val (.int (p2 &&& (15 : Int32))), .val (.int (1 : Int32)), .val (.ref b147), .val (.ref b149), .val (.ref b147), .val (.ref b154), .unset, .unset, .unset, .unset, .unset, .unset, .unset, .unset] [])) _
      refine st164 _ ?_
      show Steps p.tables e below (T164.setTop (mkF m 71 #[.val (.int p0), .val (.int p1), .val (.int p2), .val (.int (p1 &&& (15 : Int32))), .val (.int (p2 &&& (15 : Int32))), .val (.int (1 : Int32)), .val (.ref b147), .val (.ref b149), .val (.ref b147), .val (.ref b154), .unset, .unset, .unset, .unset, .unset, .unset, .unset, .unset] [(.ref b164)])) _
      refine XS.dup X164.here hx rfl (hb hby at_71) rfl rfl ?_
      show Steps p.tables e below (T164.setTop (mkF m 72 #[.val (.int p0), .val (.int p1), .val (.int p2), .val (.int (p1 &&& (15 : Int32))), .val (.int (p2 &&& (15 : Int32))), .val (.int (1 : Int32)), .val (.ref b147), .val (.ref b149), .val (.ref b147), .val (.ref b154), .unset, .unset, .unset, .unset, .unset, .unset, .unset, .unset] [(.ref b164), (.ref b164)])) _
      refine XS.aload X164.here hx rfl (hb hby at_72) rfl rfl ?_
      show Steps p.tables e below (T164.setTop (mkF m 74 #[.val (.int p0), .val (.int p1), .val (.int p2), .val (.int (p1 &&& (15 : Int32))), .val (.int (p2 &&& (15 : Int32))), .val (.int (1 : Int32)), .val (.ref b147), .val (.ref b149), .val (.ref b147), .val (.ref b154), .unset, .unset, .unset, .unset, .unset, .unset, .unset, .unset] [(.ref b147), (.ref b164), (.ref b164)])) _
      refine XS.iload X164.here hx rfl (hb hby at_74) rfl ?_
      show Steps p.tables e below (T164.setTop (mkF m 76 #[.val (.int p0), .val (.int p1), .val (.int p2), .val (.int (p1 &&& (15 : Int32))), .val (.int (p2 &&& (15 : Int32))), .val (.int (1 : Int32)), .val (.ref b147), .val (.ref b149), .val (.ref b147), .val (.ref b154), .unset, .unset, .unset, .unset, .unset, .unset, .unset, .unset] [(.int (p2 &&& (15 : Int32))), (.ref b147), (.ref b164), (.ref b164)])) _
      refine st176.trans ?_
      show Steps p.tables e below (T176.setTop (mkF m 79 #[.val (.int p0), .val (.int p1), .val (.int p2), .val (.int (p1 &&& (15 : Int32))), .val (.int (p2 &&& (15 : Int32))), .val (.int (1 : Int32)), .val (.ref b147), .val (.ref b149), .val (.ref b147), .val (.ref b154), .unset, .unset, .unset, .unset, .unset, .unset, .unset, .unset] [(.ref b164)])) _
      refine XS.astore X176.here hx rfl (hb hby at_79) rfl rfl (l' := #[.val (.int p0), .val (.int p1), .val (.int p2), .val (.int (p1 &&& (15 : Int32))), .val (.int (p2 &&& (15 : Int32))), .val (.int (1 : Int32)), .val (.ref b147), .val (.ref b149), .val (.ref b147), .val (.ref b154), .val (.ref b164), .unset, .unset, .unset, .unset, .unset, .unset, .unset]) rfl ?_
      show Steps p.tables e below (T176.setTop (mkF m 81 #[.val (.int p0), .val (.int p1), .val (.int p2), .val (.int (p1 &&& (15 : Int32))), .val (.int (p2 &&& (15 : Int32))), .val (.int (1 : Int32)), .val (.ref b147), .val (.ref b149), .val (.ref b147), .val (.ref b154), .val (.ref b164), .unset, .unset, .unset, .unset, .unset, .unset, .unset] [])) _
      refine XS.iload X176.here hx rfl (hb hby at_81) rfl ?_
      show Steps p.tables e below (T176.setTop (mkF m 83 #[.val (.int p0), .val (.int p1), .val (.int p2), .val (.int (p1 &&& (15 : Int32))), .val (.int (p2 &&& (15 : Int32))), .val (.int (1 : Int32)), .val (.ref b147), .val (.ref b149), .val (.ref b147), .val (.ref b154), .val (.ref b164), .unset, .unset, .unset, .unset, .unset, .unset, .unset] [(.int (1 : Int32))])) _
      refine XS.ifNo X176.here hx rfl (hb hby at_83) rfl ((if0 _ _).trans (feq (by decide : ¬ ((1 : Int32) = (0 : Int32)))).1) ?_
      show Steps p.tables e below (T176.setTop (mkF m 86 #[.val (.int p0), .val (.int p1), .val (.int p2), .val (.int (p1 &&& (15 : Int32))), .val (.int (p2 &&& (15 : Int32))), .val (.int (1 : Int32)), .val (.ref b147), .val (.ref b149), .val (.ref b147), .val (.ref b154), .val (.ref b164), .unset, .unset, .unset, .unset, .unset, .unset, .unset] [])) _
      refine XS.iloadN X176.here hx rfl (hb hby at_86) rfl ?_
      show Steps p.tables e below (T176.setTop (mkF m 87 #[.val (.int p0), .val (.int p1), .val (.int p2), .val (.int (p1 &&& (15 : Int32))), .val (.int (p2 &&& (15 : Int32))), .val (.int (1 : Int32)), .val (.ref b147), .val (.ref b149), .val (.ref b147), .val (.ref b154), .val (.ref b164), .unset, .unset, .unset, .unset, .unset, .unset, .unset] [(.int (p1 &&& (15 : Int32)))])) _
      refine XS.iload X176.here hx rfl (hb hby at_87) rfl ?_
      exact k
    by_cases hc89 : (p1 &&& (15 : Int32)) = (p2 &&& (15 : Int32))
    · have Q178 := ((i163_3.ext E164).keep i176_2)
      have Q179 := ((i163_4.ext E164).keep i176_2 (ninS ne_b154_b164 nin0))
      have Q180 := ((i163_5.ext E164).keep i176_2 (ninS ne_b154_b164 nin0))
      obtain ⟨cq181, kq181, q181a, q181b, q181c⟩ := isOf hZ rfl Q178
      obtain ⟨_, _, ⟨T181, L181, k181, n181⟩, -, X181, ⟨Lc181, hQ181, l181, y181, z181⟩, st181⟩ := X176.virtualBack hx (y := (⟨"com/example/path_acl_check/pathaclcheck/AclRecord", "equals", "(Ljava/lang/Object;)Z"⟩ : MethodName)) (z := (⟨"com/example/path_acl_check/pathaclcheck/AclRecord", "equals", "(Ljava/lang/Object;)Z"⟩ : MethodName)) hown (mvT hZ (hw _ (List.mem_of_getElem? (i := 48) rfl))) (mvT hZ (hw _ (List.mem_of_getElem? (i := 49) rfl))) (notFace_of_selects (args := #[]) (mvT hZ (hw _ (List.mem_of_getElem? (i := 51) rfl)))) (mvT hZ (hw _ (List.mem_of_getElem? (i := 51) rfl))) (mvT hZ (hw _ (List.mem_of_getElem? (i := 50) rfl))) (by decide) (backOf (W := 0) (rm4_e l Z a0 hw [] b154 b164 b147 (p1 &&& (15 : Int32)) (p2 &&& (15 : Int32)) T176.heap n0 (Nat.le_trans Z0 K176.1) Q178 Q179 Q180 i176_3 i176_4 i176_5 (Ne.symm ne_b154_b164)) hZ (hw _ (List.mem_of_getElem? (i := 52) rfl)) (hw _ (List.mem_of_getElem? (i := 30) rfl)) (by decide) (by decide)) q181a q181c (g := (mkF m 103 #[.val (.int p0), .val (.int p1), .val (.int p2), .val (.int (p1 &&& (15 : Int32))), .val (.int (p2 &&& (15 : Int32))), .val (.int (1 : Int32)), .val (.ref b147), .val (.ref b149), .val (.ref b147), .val (.ref b154), .val (.ref b164), .val (.int (1 : Int32)), .unset, .unset, .unset, .unset, .unset, .unset] [(.ref b164), (.ref b154)])) rfl (by rw [hml]; rfl) (Steps.refl _) (argsL := [(.ref b164)]) (rest := []) (lenOf own_pd3 rfl) rfl (by show 2 * 0 + _ ≤ _; exact Nat.le_of_eq rfl) (hb hby at_103) (fun _ _ => ⟨rfl, rfl, (by decide : 16 + 0 ≤ _), (by decide : 418 + 0 ≤ _)⟩)
      dsimp only [Pt.U, Pt.locs, Pt.cells, Pt.slots] at X181 l181 y181 z181 st181 hQ181
      subst l181 y181 z181
      obtain ⟨rfl, N181q, e181⟩ := hQ181
      have N181 := Fr.app N176 N181q
      obtain ⟨cq182, kq182, q182a, q182b, q182c⟩ := isOf hZ e181 i176_3
      obtain ⟨_, _, ⟨T182, L182, k182, n182⟩, -, X182, ⟨Lc182, hQ182, l182, y182, z182⟩, st182⟩ := X181.virtualBack hx (y := (⟨"com/example/path_acl_check/pathaclcheck/AclRecord", "equals", "(Ljava/lang/Object;)Z"⟩ : MethodName)) (z := (⟨"com/example/path_acl_check/pathaclcheck/AclRecord", "equals", "(Ljava/lang/Object;)Z"⟩ : MethodName)) hown (mvT hZ (hw _ (List.mem_of_getElem? (i := 48) rfl))) (mvT hZ (hw _ (List.mem_of_getElem? (i := 49) rfl))) (notFace_of_selects (args := #[]) (mvT hZ (hw _ (List.mem_of_getElem? (i := 51) rfl)))) (mvT hZ (hw _ (List.mem_of_getElem? (i := 51) rfl))) (mvT hZ (hw _ (List.mem_of_getElem? (i := 50) rfl))) (by decide) (backOf (W := 0) (rm4_e l Z a0 hw [] b164 b154 b147 (p2 &&& (15 : Int32)) (p1 &&& (15 : Int32)) T176.heap n0 (Nat.le_trans Z0 K176.1) i176_3 i176_4 i176_5 Q178 Q179 Q180 ne_b154_b164) hZ (hw _ (List.mem_of_getElem? (i := 52) rfl)) (hw _ (List.mem_of_getElem? (i := 30) rfl)) (by decide) (by decide)) q182a q182c (g := (mkF m 112 #[.val (.int p0), .val (.int p1), .val (.int p2), .val (.int (p1 &&& (15 : Int32))), .val (.int (p2 &&& (15 : Int32))), .val (.int (1 : Int32)), .val (.ref b147), .val (.ref b149), .val (.ref b147), .val (.ref b154), .val (.ref b164), .val (.int (1 : Int32)), .val (.int (own_f_rm4_e (p1 &&& (15 : Int32)) (p2 &&& (15 : Int32)))), .unset, .unset, .unset, .unset, .unset] [(.ref b154), (.ref b164)])) rfl (by rw [hml]; rfl) (Steps.refl _) (argsL := [(.ref b154)]) (rest := []) (lenOf own_pd3 rfl) rfl (by show 2 * 0 + _ ≤ _; exact Nat.le_of_eq rfl) (hb hby at_112) (fun _ _ => ⟨rfl, e181, (by decide : 16 + 0 ≤ _), (by decide : 418 + 0 ≤ _)⟩)
      dsimp only [Pt.U, Pt.locs, Pt.cells, Pt.slots] at X182 l182 y182 z182 st182 hQ182
      subst l182 y182 z182
      obtain ⟨rfl, N182q, e182⟩ := hQ182
      have N182 := Fr.app N181 N182q
      obtain ⟨cq183, kq183, q183a, q183b, q183c⟩ := isOf hZ e182 Q178
      obtain ⟨_, _, ⟨T183, L183, k183, n183⟩, -, X183, ⟨Lc183, hQ183, l183, y183, z183⟩, st183⟩ := X182.virtualBack hx (y := (⟨"com/example/path_acl_check/pathaclcheck/AclRecord", "equals", "(Ljava/lang/Object;)Z"⟩ : MethodName)) (z := (⟨"com/example/path_acl_check/pathaclcheck/AclRecord", "equals", "(Ljava/lang/Object;)Z"⟩ : MethodName)) hown (mvT hZ (hw _ (List.mem_of_getElem? (i := 48) rfl))) (mvT hZ (hw _ (List.mem_of_getElem? (i := 49) rfl))) (notFace_of_selects (args := #[]) (mvT hZ (hw _ (List.mem_of_getElem? (i := 51) rfl)))) (mvT hZ (hw _ (List.mem_of_getElem? (i := 51) rfl))) (mvT hZ (hw _ (List.mem_of_getElem? (i := 50) rfl))) (by decide) (backOf (W := 0) (rm4_s l Z a0 hw [] b154 b147 (p1 &&& (15 : Int32)) T176.heap n0 (Nat.le_trans Z0 K176.1) Q178 Q179 Q180) hZ (hw _ (List.mem_of_getElem? (i := 52) rfl)) (hw _ (List.mem_of_getElem? (i := 30) rfl)) (by decide) (by decide)) q183a q183c (g := (mkF m 121 #[.val (.int p0), .val (.int p1), .val (.int p2), .val (.int (p1 &&& (15 : Int32))), .val (.int (p2 &&& (15 : Int32))), .val (.int (1 : Int32)), .val (.ref b147), .val (.ref b149), .val (.ref b147), .val (.ref b154), .val (.ref b164), .val (.int (1 : Int32)), .val (.int (own_f_rm4_e (p1 &&& (15 : Int32)) (p2 &&& (15 : Int32)))), .val (.int (own_f_rm4_e (p2 &&& (15 : Int32)) (p1 &&& (15 : Int32)))), .unset, .unset, .unset, .unset] [(.ref b154), (.ref b154)])) rfl (by rw [hml]; rfl) (Steps.refl _) (argsL := [(.ref b154)]) (rest := []) (lenOf own_pd3 rfl) rfl (by show 2 * 0 + _ ≤ _; exact Nat.le_of_eq rfl) (hb hby at_121) (fun _ _ => ⟨rfl, e182, (by decide : 16 + 0 ≤ _), (by decide : 418 + 0 ≤ _)⟩)
      dsimp only [Pt.U, Pt.locs, Pt.cells, Pt.slots] at X183 l183 y183 z183 st183 hQ183
      subst l183 y183 z183
      obtain ⟨rfl, N183q, e183⟩ := hQ183
      have N183 := Fr.app N182 N183q
      obtain ⟨cq184, kq184, q184a, q184b, q184c⟩ := isOf hZ e183 i176_3
      obtain ⟨_, _, ⟨T184, L184, k184, n184⟩, -, X184, ⟨Lc184, hQ184, l184, y184, z184⟩, st184⟩ := X183.virtualBack hx (y := (⟨"com/example/path_acl_check/pathaclcheck/AclRecord", "equals", "(Ljava/lang/Object;)Z"⟩ : MethodName)) (z := (⟨"com/example/path_acl_check/pathaclcheck/AclRecord", "equals", "(Ljava/lang/Object;)Z"⟩ : MethodName)) hown (mvT hZ (hw _ (List.mem_of_getElem? (i := 48) rfl))) (mvT hZ (hw _ (List.mem_of_getElem? (i := 49) rfl))) (notFace_of_selects (args := #[]) (mvT hZ (hw _ (List.mem_of_getElem? (i := 51) rfl)))) (mvT hZ (hw _ (List.mem_of_getElem? (i := 51) rfl))) (mvT hZ (hw _ (List.mem_of_getElem? (i := 50) rfl))) (by decide) (backOf (W := 0) (rm4_s l Z a0 hw [] b164 b147 (p2 &&& (15 : Int32)) T176.heap n0 (Nat.le_trans Z0 K176.1) i176_3 i176_4 i176_5) hZ (hw _ (List.mem_of_getElem? (i := 52) rfl)) (hw _ (List.mem_of_getElem? (i := 30) rfl)) (by decide) (by decide)) q184a q184c (g := (mkF m 130 #[.val (.int p0), .val (.int p1), .val (.int p2), .val (.int (p1 &&& (15 : Int32))), .val (.int (p2 &&& (15 : Int32))), .val (.int (1 : Int32)), .val (.ref b147), .val (.ref b149), .val (.ref b147), .val (.ref b154), .val (.ref b164), .val (.int (1 : Int32)), .val (.int (own_f_rm4_e (p1 &&& (15 : Int32)) (p2 &&& (15 : Int32)))), .val (.int (own_f_rm4_e (p2 &&& (15 : Int32)) (p1 &&& (15 : Int32)))), .val (.int (1 : Int32)), .unset, .unset, .unset] [(.ref b164), (.ref b164)])) rfl (by rw [hml]; rfl) (Steps.refl _) (argsL := [(.ref b164)]) (rest := []) (lenOf own_pd3 rfl) rfl (by show 2 * 0 + _ ≤ _; exact Nat.le_of_eq rfl) (hb hby at_130) (fun _ _ => ⟨rfl, e183, (by decide : 16 + 0 ≤ _), (by decide : 418 + 0 ≤ _)⟩)
      dsimp only [Pt.U, Pt.locs, Pt.cells, Pt.slots] at X184 l184 y184 z184 st184 hQ184
      subst l184 y184 z184
      obtain ⟨rfl, N184q, e184⟩ := hQ184
      have N184 := Fr.app N183 N184q
      obtain ⟨cq185, kq185, q185a, q185b, q185c⟩ := isOf hZ e184 Q178
      obtain ⟨_, _, ⟨T185, L185, k185, n185⟩, -, X185, ⟨Lc185, hQ185, l185, y185, z185⟩, st185⟩ := X184.virtualBack hx (y := (⟨"com/example/path_acl_check/pathaclcheck/AclRecord", "equals", "(Ljava/lang/Object;)Z"⟩ : MethodName)) (z := (⟨"com/example/path_acl_check/pathaclcheck/AclRecord", "equals", "(Ljava/lang/Object;)Z"⟩ : MethodName)) hown (mvT hZ (hw _ (List.mem_of_getElem? (i := 48) rfl))) (mvT hZ (hw _ (List.mem_of_getElem? (i := 49) rfl))) (notFace_of_selects (args := #[]) (mvT hZ (hw _ (List.mem_of_getElem? (i := 51) rfl)))) (mvT hZ (hw _ (List.mem_of_getElem? (i := 51) rfl))) (mvT hZ (hw _ (List.mem_of_getElem? (i := 50) rfl))) (by decide) (backOf (W := 0) (rm4_n l Z a0 hw [] b154 T176.heap n0 (Nat.le_trans Z0 K176.1) ) hZ (hw _ (List.mem_of_getElem? (i := 52) rfl)) (hw _ (List.mem_of_getElem? (i := 30) rfl)) (by decide) (by decide)) q185a q185c (g := (mkF m 138 #[.val (.int p0), .val (.int p1), .val (.int p2), .val (.int (p1 &&& (15 : Int32))), .val (.int (p2 &&& (15 : Int32))), .val (.int (1 : Int32)), .val (.ref b147), .val (.ref b149), .val (.ref b147), .val (.ref b154), .val (.ref b164), .val (.int (1 : Int32)), .val (.int (own_f_rm4_e (p1 &&& (15 : Int32)) (p2 &&& (15 : Int32)))), .val (.int (own_f_rm4_e (p2 &&& (15 : Int32)) (p1 &&& (15 : Int32)))), .val (.int (1 : Int32)), .val (.int (1 : Int32)), .unset, .unset] [.null, (.ref b154)])) rfl (by rw [hml]; rfl) (Steps.refl _) (argsL := [.null]) (rest := []) (lenOf own_pd3 rfl) rfl (by show 2 * 0 + _ ≤ _; exact Nat.le_of_eq rfl) (hb hby at_138) (fun _ _ => ⟨rfl, e184, (by decide : 16 + 0 ≤ _), (by decide : 418 + 0 ≤ _)⟩)
      dsimp only [Pt.U, Pt.locs, Pt.cells, Pt.slots] at X185 l185 y185 z185 st185 hQ185
      subst l185 y185 z185
      obtain ⟨rfl, N185q, e185⟩ := hQ185
      have N185 := Fr.app N184 N185q
      have Q186 := (Q171.keep i176_2)
      obtain ⟨cq187, kq187, q187a, q187b, q187c⟩ := isOf hZ e185 Q178
      obtain ⟨_, _, ⟨T187, L187, k187, n187⟩, -, X187, ⟨Lc187, hQ187, l187, y187, z187⟩, st187⟩ := X185.virtualBack hx (y := (⟨"com/example/path_acl_check/pathaclcheck/AclRecord", "equals", "(Ljava/lang/Object;)Z"⟩ : MethodName)) (z := (⟨"com/example/path_acl_check/pathaclcheck/AclRecord", "equals", "(Ljava/lang/Object;)Z"⟩ : MethodName)) hown (mvT hZ (hw _ (List.mem_of_getElem? (i := 48) rfl))) (mvT hZ (hw _ (List.mem_of_getElem? (i := 49) rfl))) (notFace_of_selects (args := #[]) (mvT hZ (hw _ (List.mem_of_getElem? (i := 51) rfl)))) (mvT hZ (hw _ (List.mem_of_getElem? (i := 51) rfl))) (mvT hZ (hw _ (List.mem_of_getElem? (i := 50) rfl))) (by decide) (backOf (W := 0) (rm4_t l Z a0 hw [] b154 b147 T176.heap n0 (Nat.le_trans Z0 K176.1) Q186 ne_b147_b154) hZ (hw _ (List.mem_of_getElem? (i := 52) rfl)) (hw _ (List.mem_of_getElem? (i := 30) rfl)) (by decide) (by decide)) q187a q187c (g := (mkF m 147 #[.val (.int p0), .val (.int p1), .val (.int p2), .val (.int (p1 &&& (15 : Int32))), .val (.int (p2 &&& (15 : Int32))), .val (.int (1 : Int32)), .val (.ref b147), .val (.ref b149), .val (.ref b147), .val (.ref b154), .val (.ref b164), .val (.int (1 : Int32)), .val (.int (own_f_rm4_e (p1 &&& (15 : Int32)) (p2 &&& (15 : Int32)))), .val (.int (own_f_rm4_e (p2 &&& (15 : Int32)) (p1 &&& (15 : Int32)))), .val (.int (1 : Int32)), .val (.int (1 : Int32)), .val (.int (0 : Int32)), .unset] [(.ref b147), (.ref b154)])) rfl (by rw [hml]; rfl) (Steps.refl _) (argsL := [(.ref b147)]) (rest := []) (lenOf own_pd3 rfl) rfl (by show 2 * 0 + _ ≤ _; exact Nat.le_of_eq rfl) (hb hby at_147) (fun _ _ => ⟨rfl, e185, (by decide : 16 + 0 ≤ _), (by decide : 418 + 0 ≤ _)⟩)
      dsimp only [Pt.U, Pt.locs, Pt.cells, Pt.slots] at X187 l187 y187 z187 st187 hQ187
      subst l187 y187 z187
      obtain ⟨rfl, N187q, e187⟩ := hQ187
      have N187 := Fr.app N185 N187q
      have hc156_188 : (own_f_rm4_e (p1 &&& (15 : Int32)) (p2 &&& (15 : Int32))) = (1 : Int32) := by unfold own_f_rm4_e; rw [if_pos hc89.symm]
      have hc163_189 : (own_f_rm4_e (p2 &&& (15 : Int32)) (p1 &&& (15 : Int32))) = (1 : Int32) := by unfold own_f_rm4_e; rw [if_pos hc89]
      obtain ⟨fs, hr, hrun, hended, hW, hsame⟩ := X187.leave (v := some (.int (1 : Int32))) (fun h => by rw [Bd.returns] at h; cases h)
      refine ⟨_, _, pre177 _ ?_, hrun, hended, _, _, rfl, ?_, ⟨_, rfl⟩, hW, hsame.mono (by decide) (by decide)⟩
      · show Steps p.tables e below (T176.setTop (mkF m 89 #[.val (.int p0), .val (.int p1), .val (.int p2), .val (.int (p1 &&& (15 : Int32))), .val (.int (p2 &&& (15 : Int32))), .val (.int (1 : Int32)), .val (.ref b147), .val (.ref b149), .val (.ref b147), .val (.ref b154), .val (.ref b164), .unset, .unset, .unset, .unset, .unset, .unset, .unset] [(.int (p2 &&& (15 : Int32))), (.int (p1 &&& (15 : Int32)))])) _
        refine XS.icmpNo X176.here hx rfl (hb hby at_89) rfl (teq hc89).2 ?_
        show Steps p.tables e below (T176.setTop (mkF m 92 #[.val (.int p0), .val (.int p1), .val (.int p2), .val (.int (p1 &&& (15 : Int32))), .val (.int (p2 &&& (15 : Int32))), .val (.int (1 : Int32)), .val (.ref b147), .val (.ref b149), .val (.ref b147), .val (.ref b154), .val (.ref b164), .unset, .unset, .unset, .unset, .unset, .unset, .unset] [])) _
        refine XS.iconst X176.here hx rfl (hb hby at_92) ?_
        show Steps p.tables e below (T176.setTop (mkF m 93 #[.val (.int p0), .val (.int p1), .val (.int p2), .val (.int (p1 &&& (15 : Int32))), .val (.int (p2 &&& (15 : Int32))), .val (.int (1 : Int32)), .val (.ref b147), .val (.ref b149), .val (.ref b147), .val (.ref b154), .val (.ref b164), .unset, .unset, .unset, .unset, .unset, .unset, .unset] [(.int (1 : Int32))])) _
        refine XS.goto X176.here hx rfl (pc0 := 93) (pc' := 97) rfl (hb hby at_93) (by decide) (by decide) ?_
        show Steps p.tables e below (T176.setTop (mkF m 97 #[.val (.int p0), .val (.int p1), .val (.int p2), .val (.int (p1 &&& (15 : Int32))), .val (.int (p2 &&& (15 : Int32))), .val (.int (1 : Int32)), .val (.ref b147), .val (.ref b149), .val (.ref b147), .val (.ref b154), .val (.ref b164), .unset, .unset, .unset, .unset, .unset, .unset, .unset] [(.int (1 : Int32))])) _
        refine XS.istore X176.here hx rfl (hb hby at_97) rfl (l' := #[.val (.int p0), .val (.int p1), .val (.int p2), .val (.int (p1 &&& (15 : Int32))), .val (.int (p2 &&& (15 : Int32))), .val (.int (1 : Int32)), .val (.ref b147), .val (.ref b149), .val (.ref b147), .val (.ref b154), .val (.ref b164), .val (.int (1 : Int32)), .unset, .unset, .unset, .unset, .unset, .unset]) rfl ?_
        show Steps p.tables e below (T176.setTop (mkF m 99 #[.val (.int p0), .val (.int p1), .val (.int p2), .val (.int (p1 &&& (15 : Int32))), .val (.int (p2 &&& (15 : Int32))), .val (.int (1 : Int32)), .val (.ref b147), .val (.ref b149), .val (.ref b147), .val (.ref b154), .val (.ref b164), .val (.int (1 : Int32)), .unset, .unset, .unset, .unset, .unset, .unset] [])) _
        refine XS.aload X176.here hx rfl (hb hby at_99) rfl rfl ?_
        show Steps p.tables e below (T176.setTop (mkF m 101 #[.val (.int p0), .val (.int p1), .val (.int p2), .val (.int (p1 &&& (15 : Int32))), .val (.int (p2 &&& (15 : Int32))), .val (.int (1 : Int32)), .val (.ref b147), .val (.ref b149), .val (.ref b147), .val (.ref b154), .val (.ref b164), .val (.int (1 : Int32)), .unset, .unset, .unset, .unset, .unset, .unset] [(.ref b154)])) _
        refine XS.aload X176.here hx rfl (hb hby at_101) rfl rfl ?_
        show Steps p.tables e below (T176.setTop (mkF m 103 #[.val (.int p0), .val (.int p1), .val (.int p2), .val (.int (p1 &&& (15 : Int32))), .val (.int (p2 &&& (15 : Int32))), .val (.int (1 : Int32)), .val (.ref b147), .val (.ref b149), .val (.ref b147), .val (.ref b154), .val (.ref b164), .val (.int (1 : Int32)), .unset, .unset, .unset, .unset, .unset, .unset] [(.ref b164), (.ref b154)])) _
        refine st181.trans ?_
        show Steps p.tables e below (T181.setTop (mkF m 106 #[.val (.int p0), .val (.int p1), .val (.int p2), .val (.int (p1 &&& (15 : Int32))), .val (.int (p2 &&& (15 : Int32))), .val (.int (1 : Int32)), .val (.ref b147), .val (.ref b149), .val (.ref b147), .val (.ref b154), .val (.ref b164), .val (.int (1 : Int32)), .unset, .unset, .unset, .unset, .unset, .unset] [(.int (own_f_rm4_e (p1 &&& (15 : Int32)) (p2 &&& (15 : Int32))))])) _
        refine XS.istore X181.here hx rfl (hb hby at_106) rfl (l' := #[.val (.int p0), .val (.int p1), .val (.int p2), .val (.int (p1 &&& (15 : Int32))), .val (.int (p2 &&& (15 : Int32))), .val (.int (1 : Int32)), .val (.ref b147), .val (.ref b149), .val (.ref b147), .val (.ref b154), .val (.ref b164), .val (.int (1 : Int32)), .val (.int (own_f_rm4_e (p1 &&& (15 : Int32)) (p2 &&& (15 : Int32)))), .unset, .unset, .unset, .unset, .unset]) rfl ?_
        show Steps p.tables e below (T181.setTop (mkF m 108 #[.val (.int p0), .val (.int p1), .val (.int p2), .val (.int (p1 &&& (15 : Int32))), .val (.int (p2 &&& (15 : Int32))), .val (.int (1 : Int32)), .val (.ref b147), .val (.ref b149), .val (.ref b147), .val (.ref b154), .val (.ref b164), .val (.int (1 : Int32)), .val (.int (own_f_rm4_e (p1 &&& (15 : Int32)) (p2 &&& (15 : Int32)))), .unset, .unset, .unset, .unset, .unset] [])) _
        refine XS.aload X181.here hx rfl (hb hby at_108) rfl rfl ?_
        show Steps p.tables e below (T181.setTop (mkF m 110 #[.val (.int p0), .val (.int p1), .val (.int p2), .val (.int (p1 &&& (15 : Int32))), .val (.int (p2 &&& (15 : Int32))), .val (.int (1 : Int32)), .val (.ref b147), .val (.ref b149), .val (.ref b147), .val (.ref b154), .val (.ref b164), .val (.int (1 : Int32)), .val (.int (own_f_rm4_e (p1 &&& (15 : Int32)) (p2 &&& (15 : Int32)))), .unset, .unset, .unset, .unset, .unset] [(.ref b164)])) _
        refine XS.aload X181.here hx rfl (hb hby at_110) rfl rfl ?_
        show Steps p.tables e below (T181.setTop (mkF m 112 #[.val (.int p0), .val (.int p1), .val (.int p2), .val (.int (p1 &&& (15 : Int32))), .val (.int (p2 &&& (15 : Int32))), .val (.int (1 : Int32)), .val (.ref b147), .val (.ref b149), .val (.ref b147), .val (.ref b154), .val (.ref b164), .val (.int (1 : Int32)), .val (.int (own_f_rm4_e (p1 &&& (15 : Int32)) (p2 &&& (15 : Int32)))), .unset, .unset, .unset, .unset, .unset] [(.ref b154), (.ref b164)])) _
        refine st182.trans ?_
        show Steps p.tables e below (T182.setTop (mkF m 115 #[.val (.int p0), .val (.int p1), .val (.int p2), .val (.int (p1 &&& (15 : Int32))), .val (.int (p2 &&& (15 : Int32))), .val (.int (1 : Int32)), .val (.ref b147), .val (.ref b149), .val (.ref b147), .val (.ref b154), .val (.ref b164), .val (.int (1 : Int32)), .val (.int (own_f_rm4_e (p1 &&& (15 : Int32)) (p2 &&& (15 : Int32)))), .unset, .unset, .unset, .unset, .unset] [(.int (own_f_rm4_e (p2 &&& (15 : Int32)) (p1 &&& (15 : Int32))))])) _
        refine XS.istore X182.here hx rfl (hb hby at_115) rfl (l' := #[.val (.int p0), .val (.int p1), .val (.int p2), .val (.int (p1 &&& (15 : Int32))), .val (.int (p2 &&& (15 : Int32))), .val (.int (1 : Int32)), .val (.ref b147), .val (.ref b149), .val (.ref b147), .val (.ref b154), .val (.ref b164), .val (.int (1 : Int32)), .val (.int (own_f_rm4_e (p1 &&& (15 : Int32)) (p2 &&& (15 : Int32)))), .val (.int (own_f_rm4_e (p2 &&& (15 : Int32)) (p1 &&& (15 : Int32)))), .unset, .unset, .unset, .unset]) rfl ?_
        show Steps p.tables e below (T182.setTop (mkF m 117 #[.val (.int p0), .val (.int p1), .val (.int p2), .val (.int (p1 &&& (15 : Int32))), .val (.int (p2 &&& (15 : Int32))), .val (.int (1 : Int32)), .val (.ref b147), .val (.ref b149), .val (.ref b147), .val (.ref b154), .val (.ref b164), .val (.int (1 : Int32)), .val (.int (own_f_rm4_e (p1 &&& (15 : Int32)) (p2 &&& (15 : Int32)))), .val (.int (own_f_rm4_e (p2 &&& (15 : Int32)) (p1 &&& (15 : Int32)))), .unset, .unset, .unset, .unset] [])) _
        refine XS.aload X182.here hx rfl (hb hby at_117) rfl rfl ?_
        show Steps p.tables e below (T182.setTop (mkF m 119 #[.val (.int p0), .val (.int p1), .val (.int p2), .val (.int (p1 &&& (15 : Int32))), .val (.int (p2 &&& (15 : Int32))), .val (.int (1 : Int32)), .val (.ref b147), .val (.ref b149), .val (.ref b147), .val (.ref b154), .val (.ref b164), .val (.int (1 : Int32)), .val (.int (own_f_rm4_e (p1 &&& (15 : Int32)) (p2 &&& (15 : Int32)))), .val (.int (own_f_rm4_e (p2 &&& (15 : Int32)) (p1 &&& (15 : Int32)))), .unset, .unset, .unset, .unset] [(.ref b154)])) _
        refine XS.aload X182.here hx rfl (hb hby at_119) rfl rfl ?_
        show Steps p.tables e below (T182.setTop (mkF m 121 #[.val (.int p0), .val (.int p1), .val (.int p2), .val (.int (p1 &&& (15 : Int32))), .val (.int (p2 &&& (15 : Int32))), .val (.int (1 : Int32)), .val (.ref b147), .val (.ref b149), .val (.ref b147), .val (.ref b154), .val (.ref b164), .val (.int (1 : Int32)), .val (.int (own_f_rm4_e (p1 &&& (15 : Int32)) (p2 &&& (15 : Int32)))), .val (.int (own_f_rm4_e (p2 &&& (15 : Int32)) (p1 &&& (15 : Int32)))), .unset, .unset, .unset, .unset] [(.ref b154), (.ref b154)])) _
        refine st183.trans ?_
        show Steps p.tables e below (T183.setTop (mkF m 124 #[.val (.int p0), .val (.int p1), .val (.int p2), .val (.int (p1 &&& (15 : Int32))), .val (.int (p2 &&& (15 : Int32))), .val (.int (1 : Int32)), .val (.ref b147), .val (.ref b149), .val (.ref b147), .val (.ref b154), .val (.ref b164), .val (.int (1 : Int32)), .val (.int (own_f_rm4_e (p1 &&& (15 : Int32)) (p2 &&& (15 : Int32)))), .val (.int (own_f_rm4_e (p2 &&& (15 : Int32)) (p1 &&& (15 : Int32)))), .unset, .unset, .unset, .unset] [(.int (1 : Int32))])) _
        refine XS.istore X183.here hx rfl (hb hby at_124) rfl (l' := #[.val (.int p0), .val (.int p1), .val (.int p2), .val (.int (p1 &&& (15 : Int32))), .val (.int (p2 &&& (15 : Int32))), .val (.int (1 : Int32)), .val (.ref b147), .val (.ref b149), .val (.ref b147), .val (.ref b154), .val (.ref b164), .val (.int (1 : Int32)), .val (.int (own_f_rm4_e (p1 &&& (15 : Int32)) (p2 &&& (15 : Int32)))), .val (.int (own_f_rm4_e (p2 &&& (15 : Int32)) (p1 &&& (15 : Int32)))), .val (.int (1 : Int32)), .unset, .unset, .unset]) rfl ?_
        show Steps p.tables e below (T183.setTop (mkF m 126 #[.val (.int p0), .val (.int p1), .val (.int p2), .val (.int (p1 &&& (15 : Int32))), .val (.int (p2 &&& (15 : Int32))), .val (.int (1 : Int32)), .val (.ref b147), .val (.ref b149), .val (.ref b147), .val (.ref b154), .val (.ref b164), .val (.int (1 : Int32)), .val (.int (own_f_rm4_e (p1 &&& (15 : Int32)) (p2 &&& (15 : Int32)))), .val (.int (own_f_rm4_e (p2 &&& (15 : Int32)) (p1 &&& (15 : Int32)))), .val (.int (1 : Int32)), .unset, .unset, .unset] [])) _
        refine XS.aload X183.here hx rfl (hb hby at_126) rfl rfl ?_
        show Steps p.tables e below (T183.setTop (mkF m 128 #[.val (.int p0), .val (.int p1), .val (.int p2), .val (.int (p1 &&& (15 : Int32))), .val (.int (p2 &&& (15 : Int32))), .val (.int (1 : Int32)), .val (.ref b147), .val (.ref b149), .val (.ref b147), .val (.ref b154), .val (.ref b164), .val (.int (1 : Int32)), .val (.int (own_f_rm4_e (p1 &&& (15 : Int32)) (p2 &&& (15 : Int32)))), .val (.int (own_f_rm4_e (p2 &&& (15 : Int32)) (p1 &&& (15 : Int32)))), .val (.int (1 : Int32)), .unset, .unset, .unset] [(.ref b164)])) _
        refine XS.aload X183.here hx rfl (hb hby at_128) rfl rfl ?_
        show Steps p.tables e below (T183.setTop (mkF m 130 #[.val (.int p0), .val (.int p1), .val (.int p2), .val (.int (p1 &&& (15 : Int32))), .val (.int (p2 &&& (15 : Int32))), .val (.int (1 : Int32)), .val (.ref b147), .val (.ref b149), .val (.ref b147), .val (.ref b154), .val (.ref b164), .val (.int (1 : Int32)), .val (.int (own_f_rm4_e (p1 &&& (15 : Int32)) (p2 &&& (15 : Int32)))), .val (.int (own_f_rm4_e (p2 &&& (15 : Int32)) (p1 &&& (15 : Int32)))), .val (.int (1 : Int32)), .unset, .unset, .unset] [(.ref b164), (.ref b164)])) _
        refine st184.trans ?_
        show Steps p.tables e below (T184.setTop (mkF m 133 #[.val (.int p0), .val (.int p1), .val (.int p2), .val (.int (p1 &&& (15 : Int32))), .val (.int (p2 &&& (15 : Int32))), .val (.int (1 : Int32)), .val (.ref b147), .val (.ref b149), .val (.ref b147), .val (.ref b154), .val (.ref b164), .val (.int (1 : Int32)), .val (.int (own_f_rm4_e (p1 &&& (15 : Int32)) (p2 &&& (15 : Int32)))), .val (.int (own_f_rm4_e (p2 &&& (15 : Int32)) (p1 &&& (15 : Int32)))), .val (.int (1 : Int32)), .unset, .unset, .unset] [(.int (1 : Int32))])) _
        refine XS.istore X184.here hx rfl (hb hby at_133) rfl (l' := #[.val (.int p0), .val (.int p1), .val (.int p2), .val (.int (p1 &&& (15 : Int32))), .val (.int (p2 &&& (15 : Int32))), .val (.int (1 : Int32)), .val (.ref b147), .val (.ref b149), .val (.ref b147), .val (.ref b154), .val (.ref b164), .val (.int (1 : Int32)), .val (.int (own_f_rm4_e (p1 &&& (15 : Int32)) (p2 &&& (15 : Int32)))), .val (.int (own_f_rm4_e (p2 &&& (15 : Int32)) (p1 &&& (15 : Int32)))), .val (.int (1 : Int32)), .val (.int (1 : Int32)), .unset, .unset]) rfl ?_
        show Steps p.tables e below (T184.setTop (mkF m 135 #[.val (.int p0), .val (.int p1), .val (.int p2), .val (.int (p1 &&& (15 : Int32))), .val (.int (p2 &&& (15 : Int32))), .val (.int (1 : Int32)), .val (.ref b147), .val (.ref b149), .val (.ref b147), .val (.ref b154), .val (.ref b164), .val (.int (1 : Int32)), .val (.int (own_f_rm4_e (p1 &&& (15 : Int32)) (p2 &&& (15 : Int32)))), .val (.int (own_f_rm4_e (p2 &&& (15 : Int32)) (p1 &&& (15 : Int32)))), .val (.int (1 : Int32)), .val (.int (1 : Int32)), .unset, .unset] [])) _
        refine XS.aload X184.here hx rfl (hb hby at_135) rfl rfl ?_
        show Steps p.tables e below (T184.setTop (mkF m 137 #[.val (.int p0), .val (.int p1), .val (.int p2), .val (.int (p1 &&& (15 : Int32))), .val (.int (p2 &&& (15 : Int32))), .val (.int (1 : Int32)), .val (.ref b147), .val (.ref b149), .val (.ref b147), .val (.ref b154), .val (.ref b164), .val (.int (1 : Int32)), .val (.int (own_f_rm4_e (p1 &&& (15 : Int32)) (p2 &&& (15 : Int32)))), .val (.int (own_f_rm4_e (p2 &&& (15 : Int32)) (p1 &&& (15 : Int32)))), .val (.int (1 : Int32)), .val (.int (1 : Int32)), .unset, .unset] [(.ref b154)])) _
        refine XS.aconstNull X184.here hx rfl (hb hby at_137) ?_
        show Steps p.tables e below (T184.setTop (mkF m 138 #[.val (.int p0), .val (.int p1), .val (.int p2), .val (.int (p1 &&& (15 : Int32))), .val (.int (p2 &&& (15 : Int32))), .val (.int (1 : Int32)), .val (.ref b147), .val (.ref b149), .val (.ref b147), .val (.ref b154), .val (.ref b164), .val (.int (1 : Int32)), .val (.int (own_f_rm4_e (p1 &&& (15 : Int32)) (p2 &&& (15 : Int32)))), .val (.int (own_f_rm4_e (p2 &&& (15 : Int32)) (p1 &&& (15 : Int32)))), .val (.int (1 : Int32)), .val (.int (1 : Int32)), .unset, .unset] [.null, (.ref b154)])) _
        refine st185.trans ?_
        show Steps p.tables e below (T185.setTop (mkF m 141 #[.val (.int p0), .val (.int p1), .val (.int p2), .val (.int (p1 &&& (15 : Int32))), .val (.int (p2 &&& (15 : Int32))), .val (.int (1 : Int32)), .val (.ref b147), .val (.ref b149), .val (.ref b147), .val (.ref b154), .val (.ref b164), .val (.int (1 : Int32)), .val (.int (own_f_rm4_e (p1 &&& (15 : Int32)) (p2 &&& (15 : Int32)))), .val (.int (own_f_rm4_e (p2 &&& (15 : Int32)) (p1 &&& (15 : Int32)))), .val (.int (1 : Int32)), .val (.int (1 : Int32)), .unset, .unset] [(.int (0 : Int32))])) _
        refine XS.istore X185.here hx rfl (hb hby at_141) rfl (l' := #[.val (.int p0), .val (.int p1), .val (.int p2), .val (.int (p1 &&& (15 : Int32))), .val (.int (p2 &&& (15 : Int32))), .val (.int (1 : Int32)), .val (.ref b147), .val (.ref b149), .val (.ref b147), .val (.ref b154), .val (.ref b164), .val (.int (1 : Int32)), .val (.int (own_f_rm4_e (p1 &&& (15 : Int32)) (p2 &&& (15 : Int32)))), .val (.int (own_f_rm4_e (p2 &&& (15 : Int32)) (p1 &&& (15 : Int32)))), .val (.int (1 : Int32)), .val (.int (1 : Int32)), .val (.int (0 : Int32)), .unset]) rfl ?_
        show Steps p.tables e below (T185.setTop (mkF m 143 #[.val (.int p0), .val (.int p1), .val (.int p2), .val (.int (p1 &&& (15 : Int32))), .val (.int (p2 &&& (15 : Int32))), .val (.int (1 : Int32)), .val (.ref b147), .val (.ref b149), .val (.ref b147), .val (.ref b154), .val (.ref b164), .val (.int (1 : Int32)), .val (.int (own_f_rm4_e (p1 &&& (15 : Int32)) (p2 &&& (15 : Int32)))), .val (.int (own_f_rm4_e (p2 &&& (15 : Int32)) (p1 &&& (15 : Int32)))), .val (.int (1 : Int32)), .val (.int (1 : Int32)), .val (.int (0 : Int32)), .unset] [])) _
        refine XS.aload X185.here hx rfl (hb hby at_143) rfl rfl ?_
        show Steps p.tables e below (T185.setTop (mkF m 145 #[.val (.int p0), .val (.int p1), .val (.int p2), .val (.int (p1 &&& (15 : Int32))), .val (.int (p2 &&& (15 : Int32))), .val (.int (1 : Int32)), .val (.ref b147), .val (.ref b149), .val (.ref b147), .val (.ref b154), .val (.ref b164), .val (.int (1 : Int32)), .val (.int (own_f_rm4_e (p1 &&& (15 : Int32)) (p2 &&& (15 : Int32)))), .val (.int (own_f_rm4_e (p2 &&& (15 : Int32)) (p1 &&& (15 : Int32)))), .val (.int (1 : Int32)), .val (.int (1 : Int32)), .val (.int (0 : Int32)), .unset] [(.ref b154)])) _
        refine XS.aload X185.here hx rfl (hb hby at_145) rfl rfl ?_
        show Steps p.tables e below (T185.setTop (mkF m 147 #[.val (.int p0), .val (.int p1), .val (.int p2), .val (.int (p1 &&& (15 : Int32))), .val (.int (p2 &&& (15 : Int32))), .val (.int (1 : Int32)), .val (.ref b147), .val (.ref b149), .val (.ref b147), .val (.ref b154), .val (.ref b164), .val (.int (1 : Int32)), .val (.int (own_f_rm4_e (p1 &&& (15 : Int32)) (p2 &&& (15 : Int32)))), .val (.int (own_f_rm4_e (p2 &&& (15 : Int32)) (p1 &&& (15 : Int32)))), .val (.int (1 : Int32)), .val (.int (1 : Int32)), .val (.int (0 : Int32)), .unset] [(.ref b147), (.ref b154)])) _
        refine st187.trans ?_
        show Steps p.tables e below (T187.setTop (mkF m 150 #[.val (.int p0), .val (.int p1), .val (.int p2), .val (.int (p1 &&& (15 : Int32))), .val (.int (p2 &&& (15 : Int32))), .val (.int (1 : Int32)), .val (.ref b147), .val (.ref b149), .val (.ref b147), .val (.ref b154), .val (.ref b164), .val (.int (1 : Int32)), .val (.int (own_f_rm4_e (p1 &&& (15 : Int32)) (p2 &&& (15 : Int32)))), .val (.int (own_f_rm4_e (p2 &&& (15 : Int32)) (p1 &&& (15 : Int32)))), .val (.int (1 : Int32)), .val (.int (1 : Int32)), .val (.int (0 : Int32)), .unset] [(.int (0 : Int32))])) _
        refine XS.istore X187.here hx rfl (hb hby at_150) rfl (l' := #[.val (.int p0), .val (.int p1), .val (.int p2), .val (.int (p1 &&& (15 : Int32))), .val (.int (p2 &&& (15 : Int32))), .val (.int (1 : Int32)), .val (.ref b147), .val (.ref b149), .val (.ref b147), .val (.ref b154), .val (.ref b164), .val (.int (1 : Int32)), .val (.int (own_f_rm4_e (p1 &&& (15 : Int32)) (p2 &&& (15 : Int32)))), .val (.int (own_f_rm4_e (p2 &&& (15 : Int32)) (p1 &&& (15 : Int32)))), .val (.int (1 : Int32)), .val (.int (1 : Int32)), .val (.int (0 : Int32)), .val (.int (0 : Int32))]) rfl ?_
        show Steps p.tables e below (T187.setTop (mkF m 152 #[.val (.int p0), .val (.int p1), .val (.int p2), .val (.int (p1 &&& (15 : Int32))), .val (.int (p2 &&& (15 : Int32))), .val (.int (1 : Int32)), .val (.ref b147), .val (.ref b149), .val (.ref b147), .val (.ref b154), .val (.ref b164), .val (.int (1 : Int32)), .val (.int (own_f_rm4_e (p1 &&& (15 : Int32)) (p2 &&& (15 : Int32)))), .val (.int (own_f_rm4_e (p2 &&& (15 : Int32)) (p1 &&& (15 : Int32)))), .val (.int (1 : Int32)), .val (.int (1 : Int32)), .val (.int (0 : Int32)), .val (.int (0 : Int32))] [])) _
        refine XS.iload X187.here hx rfl (hb hby at_152) rfl ?_
        show Steps p.tables e below (T187.setTop (mkF m 154 #[.val (.int p0), .val (.int p1), .val (.int p2), .val (.int (p1 &&& (15 : Int32))), .val (.int (p2 &&& (15 : Int32))), .val (.int (1 : Int32)), .val (.ref b147), .val (.ref b149), .val (.ref b147), .val (.ref b154), .val (.ref b164), .val (.int (1 : Int32)), .val (.int (own_f_rm4_e (p1 &&& (15 : Int32)) (p2 &&& (15 : Int32)))), .val (.int (own_f_rm4_e (p2 &&& (15 : Int32)) (p1 &&& (15 : Int32)))), .val (.int (1 : Int32)), .val (.int (1 : Int32)), .val (.int (0 : Int32)), .val (.int (0 : Int32))] [(.int (own_f_rm4_e (p1 &&& (15 : Int32)) (p2 &&& (15 : Int32))))])) _
        refine XS.iload X187.here hx rfl (hb hby at_154) rfl ?_
        show Steps p.tables e below (T187.setTop (mkF m 156 #[.val (.int p0), .val (.int p1), .val (.int p2), .val (.int (p1 &&& (15 : Int32))), .val (.int (p2 &&& (15 : Int32))), .val (.int (1 : Int32)), .val (.ref b147), .val (.ref b149), .val (.ref b147), .val (.ref b154), .val (.ref b164), .val (.int (1 : Int32)), .val (.int (own_f_rm4_e (p1 &&& (15 : Int32)) (p2 &&& (15 : Int32)))), .val (.int (own_f_rm4_e (p2 &&& (15 : Int32)) (p1 &&& (15 : Int32)))), .val (.int (1 : Int32)), .val (.int (1 : Int32)), .val (.int (0 : Int32)), .val (.int (0 : Int32))] [(.int (1 : Int32)), (.int (own_f_rm4_e (p1 &&& (15 : Int32)) (p2 &&& (15 : Int32))))])) _
        refine XS.icmpNo X187.here hx rfl (hb hby at_156) rfl (teq hc156_188).2 ?_
        show Steps p.tables e below (T187.setTop (mkF m 159 #[.val (.int p0), .val (.int p1), .val (.int p2), .val (.int (p1 &&& (15 : Int32))), .val (.int (p2 &&& (15 : Int32))), .val (.int (1 : Int32)), .val (.ref b147), .val (.ref b149), .val (.ref b147), .val (.ref b154), .val (.ref b164), .val (.int (1 : Int32)), .val (.int (own_f_rm4_e (p1 &&& (15 : Int32)) (p2 &&& (15 : Int32)))), .val (.int (own_f_rm4_e (p2 &&& (15 : Int32)) (p1 &&& (15 : Int32)))), .val (.int (1 : Int32)), .val (.int (1 : Int32)), .val (.int (0 : Int32)), .val (.int (0 : Int32))] [])) _
        refine XS.iload X187.here hx rfl (hb hby at_159) rfl ?_
        show Steps p.tables e below (T187.setTop (mkF m 161 #[.val (.int p0), .val (.int p1), .val (.int p2), .val (.int (p1 &&& (15 : Int32))), .val (.int (p2 &&& (15 : Int32))), .val (.int (1 : Int32)), .val (.ref b147), .val (.ref b149), .val (.ref b147), .val (.ref b154), .val (.ref b164), .val (.int (1 : Int32)), .val (.int (own_f_rm4_e (p1 &&& (15 : Int32)) (p2 &&& (15 : Int32)))), .val (.int (own_f_rm4_e (p2 &&& (15 : Int32)) (p1 &&& (15 : Int32)))), .val (.int (1 : Int32)), .val (.int (1 : Int32)), .val (.int (0 : Int32)), .val (.int (0 : Int32))] [(.int (own_f_rm4_e (p2 &&& (15 : Int32)) (p1 &&& (15 : Int32))))])) _
        refine XS.iload X187.here hx rfl (hb hby at_161) rfl ?_
        show Steps p.tables e below (T187.setTop (mkF m 163 #[.val (.int p0), .val (.int p1), .val (.int p2), .val (.int (p1 &&& (15 : Int32))), .val (.int (p2 &&& (15 : Int32))), .val (.int (1 : Int32)), .val (.ref b147), .val (.ref b149), .val (.ref b147), .val (.ref b154), .val (.ref b164), .val (.int (1 : Int32)), .val (.int (own_f_rm4_e (p1 &&& (15 : Int32)) (p2 &&& (15 : Int32)))), .val (.int (own_f_rm4_e (p2 &&& (15 : Int32)) (p1 &&& (15 : Int32)))), .val (.int (1 : Int32)), .val (.int (1 : Int32)), .val (.int (0 : Int32)), .val (.int (0 : Int32))] [(.int (1 : Int32)), (.int (own_f_rm4_e (p2 &&& (15 : Int32)) (p1 &&& (15 : Int32))))])) _
        refine XS.icmpNo X187.here hx rfl (hb hby at_163) rfl (teq hc163_189).2 ?_
        show Steps p.tables e below (T187.setTop (mkF m 166 #[.val (.int p0), .val (.int p1), .val (.int p2), .val (.int (p1 &&& (15 : Int32))), .val (.int (p2 &&& (15 : Int32))), .val (.int (1 : Int32)), .val (.ref b147), .val (.ref b149), .val (.ref b147), .val (.ref b154), .val (.ref b164), .val (.int (1 : Int32)), .val (.int (own_f_rm4_e (p1 &&& (15 : Int32)) (p2 &&& (15 : Int32)))), .val (.int (own_f_rm4_e (p2 &&& (15 : Int32)) (p1 &&& (15 : Int32)))), .val (.int (1 : Int32)), .val (.int (1 : Int32)), .val (.int (0 : Int32)), .val (.int (0 : Int32))] [])) _
        refine XS.iload X187.here hx rfl (hb hby at_166) rfl ?_
        show Steps p.tables e below (T187.setTop (mkF m 168 #[.val (.int p0), .val (.int p1), .val (.int p2), .val (.int (p1 &&& (15 : Int32))), .val (.int (p2 &&& (15 : Int32))), .val (.int (1 : Int32)), .val (.ref b147), .val (.ref b149), .val (.ref b147), .val (.ref b154), .val (.ref b164), .val (.int (1 : Int32)), .val (.int (own_f_rm4_e (p1 &&& (15 : Int32)) (p2 &&& (15 : Int32)))), .val (.int (own_f_rm4_e (p2 &&& (15 : Int32)) (p1 &&& (15 : Int32)))), .val (.int (1 : Int32)), .val (.int (1 : Int32)), .val (.int (0 : Int32)), .val (.int (0 : Int32))] [(.int (1 : Int32))])) _
        refine XS.ifNo X187.here hx rfl (hb hby at_168) rfl ((if0 _ _).trans (feq (by decide : ¬ ((1 : Int32) = (0 : Int32)))).1) ?_
        show Steps p.tables e below (T187.setTop (mkF m 171 #[.val (.int p0), .val (.int p1), .val (.int p2), .val (.int (p1 &&& (15 : Int32))), .val (.int (p2 &&& (15 : Int32))), .val (.int (1 : Int32)), .val (.ref b147), .val (.ref b149), .val (.ref b147), .val (.ref b154), .val (.ref b164), .val (.int (1 : Int32)), .val (.int (own_f_rm4_e (p1 &&& (15 : Int32)) (p2 &&& (15 : Int32)))), .val (.int (own_f_rm4_e (p2 &&& (15 : Int32)) (p1 &&& (15 : Int32)))), .val (.int (1 : Int32)), .val (.int (1 : Int32)), .val (.int (0 : Int32)), .val (.int (0 : Int32))] [])) _
        refine XS.iload X187.here hx rfl (hb hby at_171) rfl ?_
        show Steps p.tables e below (T187.setTop (mkF m 173 #[.val (.int p0), .val (.int p1), .val (.int p2), .val (.int (p1 &&& (15 : Int32))), .val (.int (p2 &&& (15 : Int32))), .val (.int (1 : Int32)), .val (.ref b147), .val (.ref b149), .val (.ref b147), .val (.ref b154), .val (.ref b164), .val (.int (1 : Int32)), .val (.int (own_f_rm4_e (p1 &&& (15 : Int32)) (p2 &&& (15 : Int32)))), .val (.int (own_f_rm4_e (p2 &&& (15 : Int32)) (p1 &&& (15 : Int32)))), .val (.int (1 : Int32)), .val (.int (1 : Int32)), .val (.int (0 : Int32)), .val (.int (0 : Int32))] [(.int (1 : Int32))])) _
        refine XS.ifNo X187.here hx rfl (hb hby at_173) rfl ((if0 _ _).trans (feq (by decide : ¬ ((1 : Int32) = (0 : Int32)))).1) ?_
        show Steps p.tables e below (T187.setTop (mkF m 176 #[.val (.int p0), .val (.int p1), .val (.int p2), .val (.int (p1 &&& (15 : Int32))), .val (.int (p2 &&& (15 : Int32))), .val (.int (1 : Int32)), .val (.ref b147), .val (.ref b149), .val (.ref b147), .val (.ref b154), .val (.ref b164), .val (.int (1 : Int32)), .val (.int (own_f_rm4_e (p1 &&& (15 : Int32)) (p2 &&& (15 : Int32)))), .val (.int (own_f_rm4_e (p2 &&& (15 : Int32)) (p1 &&& (15 : Int32)))), .val (.int (1 : Int32)), .val (.int (1 : Int32)), .val (.int (0 : Int32)), .val (.int (0 : Int32))] [])) _
        refine XS.iload X187.here hx rfl (hb hby at_176) rfl ?_
        show Steps p.tables e below (T187.setTop (mkF m 178 #[.val (.int p0), .val (.int p1), .val (.int p2), .val (.int (p1 &&& (15 : Int32))), .val (.int (p2 &&& (15 : Int32))), .val (.int (1 : Int32)), .val (.ref b147), .val (.ref b149), .val (.ref b147), .val (.ref b154), .val (.ref b164), .val (.int (1 : Int32)), .val (.int (own_f_rm4_e (p1 &&& (15 : Int32)) (p2 &&& (15 : Int32)))), .val (.int (own_f_rm4_e (p2 &&& (15 : Int32)) (p1 &&& (15 : Int32)))), .val (.int (1 : Int32)), .val (.int (1 : Int32)), .val (.int (0 : Int32)), .val (.int (0 : Int32))] [(.int (0 : Int32))])) _
        refine XS.ifNo X187.here hx rfl (hb hby at_178) rfl ((if0 _ _).trans (teq (by decide : ((0 : Int32) = (0 : Int32)))).2) ?_
        show Steps p.tables e below (T187.setTop (mkF m 181 #[.val (.int p0), .val (.int p1), .val (.int p2), .val (.int (p1 &&& (15 : Int32))), .val (.int (p2 &&& (15 : Int32))), .val (.int (1 : Int32)), .val (.ref b147), .val (.ref b149), .val (.ref b147), .val (.ref b154), .val (.ref b164), .val (.int (1 : Int32)), .val (.int (own_f_rm4_e (p1 &&& (15 : Int32)) (p2 &&& (15 : Int32)))), .val (.int (own_f_rm4_e (p2 &&& (15 : Int32)) (p1 &&& (15 : Int32)))), .val (.int (1 : Int32)), .val (.int (1 : Int32)), .val (.int (0 : Int32)), .val (.int (0 : Int32))] [])) _
        refine XS.iload X187.here hx rfl (hb hby at_181) rfl ?_
        show Steps p.tables e below (T187.setTop (mkF m 183 #[.val (.int p0), .val (.int p1), .val (.int p2), .val (.int (p1 &&& (15 : Int32))), .val (.int (p2 &&& (15 : Int32))), .val (.int (1 : Int32)), .val (.ref b147), .val (.ref b149), .val (.ref b147), .val (.ref b154), .val (.ref b164), .val (.int (1 : Int32)), .val (.int (own_f_rm4_e (p1 &&& (15 : Int32)) (p2 &&& (15 : Int32)))), .val (.int (own_f_rm4_e (p2 &&& (15 : Int32)) (p1 &&& (15 : Int32)))), .val (.int (1 : Int32)), .val (.int (1 : Int32)), .val (.int (0 : Int32)), .val (.int (0 : Int32))] [(.int (0 : Int32))])) _
        refine XS.ifNo X187.here hx rfl (hb hby at_183) rfl ((if0 _ _).trans (teq (by decide : ((0 : Int32) = (0 : Int32)))).2) ?_
        show Steps p.tables e below (T187.setTop (mkF m 186 #[.val (.int p0), .val (.int p1), .val (.int p2), .val (.int (p1 &&& (15 : Int32))), .val (.int (p2 &&& (15 : Int32))), .val (.int (1 : Int32)), .val (.ref b147), .val (.ref b149), .val (.ref b147), .val (.ref b154), .val (.ref b164), .val (.int (1 : Int32)), .val (.int (own_f_rm4_e (p1 &&& (15 : Int32)) (p2 &&& (15 : Int32)))), .val (.int (own_f_rm4_e (p2 &&& (15 : Int32)) (p1 &&& (15 : Int32)))), .val (.int (1 : Int32)), .val (.int (1 : Int32)), .val (.int (0 : Int32)), .val (.int (0 : Int32))] [])) _
        refine XS.iconst X187.here hx rfl (hb hby at_186) ?_
        show Steps p.tables e below (T187.setTop (mkF m 187 #[.val (.int p0), .val (.int p1), .val (.int p2), .val (.int (p1 &&& (15 : Int32))), .val (.int (p2 &&& (15 : Int32))), .val (.int (1 : Int32)), .val (.ref b147), .val (.ref b149), .val (.ref b147), .val (.ref b154), .val (.ref b164), .val (.int (1 : Int32)), .val (.int (own_f_rm4_e (p1 &&& (15 : Int32)) (p2 &&& (15 : Int32)))), .val (.int (own_f_rm4_e (p2 &&& (15 : Int32)) (p1 &&& (15 : Int32)))), .val (.int (1 : Int32)), .val (.int (1 : Int32)), .val (.int (0 : Int32)), .val (.int (0 : Int32))] [(.int (1 : Int32))])) _
        refine XS.goto X187.here hx rfl (pc0 := 187) (pc' := 191) rfl (hb hby at_187) (by decide) (by decide) ?_
        show Steps p.tables e below (T187.setTop (mkF m 191 #[.val (.int p0), .val (.int p1), .val (.int p2), .val (.int (p1 &&& (15 : Int32))), .val (.int (p2 &&& (15 : Int32))), .val (.int (1 : Int32)), .val (.ref b147), .val (.ref b149), .val (.ref b147), .val (.ref b154), .val (.ref b164), .val (.int (1 : Int32)), .val (.int (own_f_rm4_e (p1 &&& (15 : Int32)) (p2 &&& (15 : Int32)))), .val (.int (own_f_rm4_e (p2 &&& (15 : Int32)) (p1 &&& (15 : Int32)))), .val (.int (1 : Int32)), .val (.int (1 : Int32)), .val (.int (0 : Int32)), .val (.int (0 : Int32))] [(.int (1 : Int32))])) _
        exact retN X187 hx (t := .boolean) Bd.returns (by simp) (hb hby at_191) hr
      · show Q0 Z p0 p1 p2 h0 n0 _ T187.heap _
        rw [e187]
        exact ⟨rfl, N187⟩
    · have Q190 := ((i163_3.ext E164).keep i176_2)
      have Q191 := ((i163_4.ext E164).keep i176_2 (ninS ne_b154_b164 nin0))
      have Q192 := ((i163_5.ext E164).keep i176_2 (ninS ne_b154_b164 nin0))
      obtain ⟨cq193, kq193, q193a, q193b, q193c⟩ := isOf hZ rfl Q190
      obtain ⟨_, _, ⟨T193, L193, k193, n193⟩, -, X193, ⟨Lc193, hQ193, l193, y193, z193⟩, st193⟩ := X176.virtualBack hx (y := (⟨"com/example/path_acl_check/pathaclcheck/AclRecord", "equals", "(Ljava/lang/Object;)Z"⟩ : MethodName)) (z := (⟨"com/example/path_acl_check/pathaclcheck/AclRecord", "equals", "(Ljava/lang/Object;)Z"⟩ : MethodName)) hown (mvT hZ (hw _ (List.mem_of_getElem? (i := 48) rfl))) (mvT hZ (hw _ (List.mem_of_getElem? (i := 49) rfl))) (notFace_of_selects (args := #[]) (mvT hZ (hw _ (List.mem_of_getElem? (i := 51) rfl)))) (mvT hZ (hw _ (List.mem_of_getElem? (i := 51) rfl))) (mvT hZ (hw _ (List.mem_of_getElem? (i := 50) rfl))) (by decide) (backOf (W := 0) (rm4_e l Z a0 hw [] b154 b164 b147 (p1 &&& (15 : Int32)) (p2 &&& (15 : Int32)) T176.heap n0 (Nat.le_trans Z0 K176.1) Q190 Q191 Q192 i176_3 i176_4 i176_5 (Ne.symm ne_b154_b164)) hZ (hw _ (List.mem_of_getElem? (i := 52) rfl)) (hw _ (List.mem_of_getElem? (i := 30) rfl)) (by decide) (by decide)) q193a q193c (g := (mkF m 103 #[.val (.int p0), .val (.int p1), .val (.int p2), .val (.int (p1 &&& (15 : Int32))), .val (.int (p2 &&& (15 : Int32))), .val (.int (1 : Int32)), .val (.ref b147), .val (.ref b149), .val (.ref b147), .val (.ref b154), .val (.ref b164), .val (.int (0 : Int32)), .unset, .unset, .unset, .unset, .unset, .unset] [(.ref b164), (.ref b154)])) rfl (by rw [hml]; rfl) (Steps.refl _) (argsL := [(.ref b164)]) (rest := []) (lenOf own_pd3 rfl) rfl (by show 2 * 0 + _ ≤ _; exact Nat.le_of_eq rfl) (hb hby at_103) (fun _ _ => ⟨rfl, rfl, (by decide : 16 + 0 ≤ _), (by decide : 418 + 0 ≤ _)⟩)
      dsimp only [Pt.U, Pt.locs, Pt.cells, Pt.slots] at X193 l193 y193 z193 st193 hQ193
      subst l193 y193 z193
      obtain ⟨rfl, N193q, e193⟩ := hQ193
      have N193 := Fr.app N176 N193q
      obtain ⟨cq194, kq194, q194a, q194b, q194c⟩ := isOf hZ e193 i176_3
      obtain ⟨_, _, ⟨T194, L194, k194, n194⟩, -, X194, ⟨Lc194, hQ194, l194, y194, z194⟩, st194⟩ := X193.virtualBack hx (y := (⟨"com/example/path_acl_check/pathaclcheck/AclRecord", "equals", "(Ljava/lang/Object;)Z"⟩ : MethodName)) (z := (⟨"com/example/path_acl_check/pathaclcheck/AclRecord", "equals", "(Ljava/lang/Object;)Z"⟩ : MethodName)) hown (mvT hZ (hw _ (List.mem_of_getElem? (i := 48) rfl))) (mvT hZ (hw _ (List.mem_of_getElem? (i := 49) rfl))) (notFace_of_selects (args := #[]) (mvT hZ (hw _ (List.mem_of_getElem? (i := 51) rfl)))) (mvT hZ (hw _ (List.mem_of_getElem? (i := 51) rfl))) (mvT hZ (hw _ (List.mem_of_getElem? (i := 50) rfl))) (by decide) (backOf (W := 0) (rm4_e l Z a0 hw [] b164 b154 b147 (p2 &&& (15 : Int32)) (p1 &&& (15 : Int32)) T176.heap n0 (Nat.le_trans Z0 K176.1) i176_3 i176_4 i176_5 Q190 Q191 Q192 ne_b154_b164) hZ (hw _ (List.mem_of_getElem? (i := 52) rfl)) (hw _ (List.mem_of_getElem? (i := 30) rfl)) (by decide) (by decide)) q194a q194c (g := (mkF m 112 #[.val (.int p0), .val (.int p1), .val (.int p2), .val (.int (p1 &&& (15 : Int32))), .val (.int (p2 &&& (15 : Int32))), .val (.int (1 : Int32)), .val (.ref b147), .val (.ref b149), .val (.ref b147), .val (.ref b154), .val (.ref b164), .val (.int (0 : Int32)), .val (.int (own_f_rm4_e (p1 &&& (15 : Int32)) (p2 &&& (15 : Int32)))), .unset, .unset, .unset, .unset, .unset] [(.ref b154), (.ref b164)])) rfl (by rw [hml]; rfl) (Steps.refl _) (argsL := [(.ref b154)]) (rest := []) (lenOf own_pd3 rfl) rfl (by show 2 * 0 + _ ≤ _; exact Nat.le_of_eq rfl) (hb hby at_112) (fun _ _ => ⟨rfl, e193, (by decide : 16 + 0 ≤ _), (by decide : 418 + 0 ≤ _)⟩)
      dsimp only [Pt.U, Pt.locs, Pt.cells, Pt.slots] at X194 l194 y194 z194 st194 hQ194
      subst l194 y194 z194
      obtain ⟨rfl, N194q, e194⟩ := hQ194
      have N194 := Fr.app N193 N194q
      obtain ⟨cq195, kq195, q195a, q195b, q195c⟩ := isOf hZ e194 Q190
      obtain ⟨_, _, ⟨T195, L195, k195, n195⟩, -, X195, ⟨Lc195, hQ195, l195, y195, z195⟩, st195⟩ := X194.virtualBack hx (y := (⟨"com/example/path_acl_check/pathaclcheck/AclRecord", "equals", "(Ljava/lang/Object;)Z"⟩ : MethodName)) (z := (⟨"com/example/path_acl_check/pathaclcheck/AclRecord", "equals", "(Ljava/lang/Object;)Z"⟩ : MethodName)) hown (mvT hZ (hw _ (List.mem_of_getElem? (i := 48) rfl))) (mvT hZ (hw _ (List.mem_of_getElem? (i := 49) rfl))) (notFace_of_selects (args := #[]) (mvT hZ (hw _ (List.mem_of_getElem? (i := 51) rfl)))) (mvT hZ (hw _ (List.mem_of_getElem? (i := 51) rfl))) (mvT hZ (hw _ (List.mem_of_getElem? (i := 50) rfl))) (by decide) (backOf (W := 0) (rm4_s l Z a0 hw [] b154 b147 (p1 &&& (15 : Int32)) T176.heap n0 (Nat.le_trans Z0 K176.1) Q190 Q191 Q192) hZ (hw _ (List.mem_of_getElem? (i := 52) rfl)) (hw _ (List.mem_of_getElem? (i := 30) rfl)) (by decide) (by decide)) q195a q195c (g := (mkF m 121 #[.val (.int p0), .val (.int p1), .val (.int p2), .val (.int (p1 &&& (15 : Int32))), .val (.int (p2 &&& (15 : Int32))), .val (.int (1 : Int32)), .val (.ref b147), .val (.ref b149), .val (.ref b147), .val (.ref b154), .val (.ref b164), .val (.int (0 : Int32)), .val (.int (own_f_rm4_e (p1 &&& (15 : Int32)) (p2 &&& (15 : Int32)))), .val (.int (own_f_rm4_e (p2 &&& (15 : Int32)) (p1 &&& (15 : Int32)))), .unset, .unset, .unset, .unset] [(.ref b154), (.ref b154)])) rfl (by rw [hml]; rfl) (Steps.refl _) (argsL := [(.ref b154)]) (rest := []) (lenOf own_pd3 rfl) rfl (by show 2 * 0 + _ ≤ _; exact Nat.le_of_eq rfl) (hb hby at_121) (fun _ _ => ⟨rfl, e194, (by decide : 16 + 0 ≤ _), (by decide : 418 + 0 ≤ _)⟩)
      dsimp only [Pt.U, Pt.locs, Pt.cells, Pt.slots] at X195 l195 y195 z195 st195 hQ195
      subst l195 y195 z195
      obtain ⟨rfl, N195q, e195⟩ := hQ195
      have N195 := Fr.app N194 N195q
      obtain ⟨cq196, kq196, q196a, q196b, q196c⟩ := isOf hZ e195 i176_3
      obtain ⟨_, _, ⟨T196, L196, k196, n196⟩, -, X196, ⟨Lc196, hQ196, l196, y196, z196⟩, st196⟩ := X195.virtualBack hx (y := (⟨"com/example/path_acl_check/pathaclcheck/AclRecord", "equals", "(Ljava/lang/Object;)Z"⟩ : MethodName)) (z := (⟨"com/example/path_acl_check/pathaclcheck/AclRecord", "equals", "(Ljava/lang/Object;)Z"⟩ : MethodName)) hown (mvT hZ (hw _ (List.mem_of_getElem? (i := 48) rfl))) (mvT hZ (hw _ (List.mem_of_getElem? (i := 49) rfl))) (notFace_of_selects (args := #[]) (mvT hZ (hw _ (List.mem_of_getElem? (i := 51) rfl)))) (mvT hZ (hw _ (List.mem_of_getElem? (i := 51) rfl))) (mvT hZ (hw _ (List.mem_of_getElem? (i := 50) rfl))) (by decide) (backOf (W := 0) (rm4_s l Z a0 hw [] b164 b147 (p2 &&& (15 : Int32)) T176.heap n0 (Nat.le_trans Z0 K176.1) i176_3 i176_4 i176_5) hZ (hw _ (List.mem_of_getElem? (i := 52) rfl)) (hw _ (List.mem_of_getElem? (i := 30) rfl)) (by decide) (by decide)) q196a q196c (g := (mkF m 130 #[.val (.int p0), .val (.int p1), .val (.int p2), .val (.int (p1 &&& (15 : Int32))), .val (.int (p2 &&& (15 : Int32))), .val (.int (1 : Int32)), .val (.ref b147), .val (.ref b149), .val (.ref b147), .val (.ref b154), .val (.ref b164), .val (.int (0 : Int32)), .val (.int (own_f_rm4_e (p1 &&& (15 : Int32)) (p2 &&& (15 : Int32)))), .val (.int (own_f_rm4_e (p2 &&& (15 : Int32)) (p1 &&& (15 : Int32)))), .val (.int (1 : Int32)), .unset, .unset, .unset] [(.ref b164), (.ref b164)])) rfl (by rw [hml]; rfl) (Steps.refl _) (argsL := [(.ref b164)]) (rest := []) (lenOf own_pd3 rfl) rfl (by show 2 * 0 + _ ≤ _; exact Nat.le_of_eq rfl) (hb hby at_130) (fun _ _ => ⟨rfl, e195, (by decide : 16 + 0 ≤ _), (by decide : 418 + 0 ≤ _)⟩)
      dsimp only [Pt.U, Pt.locs, Pt.cells, Pt.slots] at X196 l196 y196 z196 st196 hQ196
      subst l196 y196 z196
      obtain ⟨rfl, N196q, e196⟩ := hQ196
      have N196 := Fr.app N195 N196q
      obtain ⟨cq197, kq197, q197a, q197b, q197c⟩ := isOf hZ e196 Q190
      obtain ⟨_, _, ⟨T197, L197, k197, n197⟩, -, X197, ⟨Lc197, hQ197, l197, y197, z197⟩, st197⟩ := X196.virtualBack hx (y := (⟨"com/example/path_acl_check/pathaclcheck/AclRecord", "equals", "(Ljava/lang/Object;)Z"⟩ : MethodName)) (z := (⟨"com/example/path_acl_check/pathaclcheck/AclRecord", "equals", "(Ljava/lang/Object;)Z"⟩ : MethodName)) hown (mvT hZ (hw _ (List.mem_of_getElem? (i := 48) rfl))) (mvT hZ (hw _ (List.mem_of_getElem? (i := 49) rfl))) (notFace_of_selects (args := #[]) (mvT hZ (hw _ (List.mem_of_getElem? (i := 51) rfl)))) (mvT hZ (hw _ (List.mem_of_getElem? (i := 51) rfl))) (mvT hZ (hw _ (List.mem_of_getElem? (i := 50) rfl))) (by decide) (backOf (W := 0) (rm4_n l Z a0 hw [] b154 T176.heap n0 (Nat.le_trans Z0 K176.1) ) hZ (hw _ (List.mem_of_getElem? (i := 52) rfl)) (hw _ (List.mem_of_getElem? (i := 30) rfl)) (by decide) (by decide)) q197a q197c (g := (mkF m 138 #[.val (.int p0), .val (.int p1), .val (.int p2), .val (.int (p1 &&& (15 : Int32))), .val (.int (p2 &&& (15 : Int32))), .val (.int (1 : Int32)), .val (.ref b147), .val (.ref b149), .val (.ref b147), .val (.ref b154), .val (.ref b164), .val (.int (0 : Int32)), .val (.int (own_f_rm4_e (p1 &&& (15 : Int32)) (p2 &&& (15 : Int32)))), .val (.int (own_f_rm4_e (p2 &&& (15 : Int32)) (p1 &&& (15 : Int32)))), .val (.int (1 : Int32)), .val (.int (1 : Int32)), .unset, .unset] [.null, (.ref b154)])) rfl (by rw [hml]; rfl) (Steps.refl _) (argsL := [.null]) (rest := []) (lenOf own_pd3 rfl) rfl (by show 2 * 0 + _ ≤ _; exact Nat.le_of_eq rfl) (hb hby at_138) (fun _ _ => ⟨rfl, e196, (by decide : 16 + 0 ≤ _), (by decide : 418 + 0 ≤ _)⟩)
      dsimp only [Pt.U, Pt.locs, Pt.cells, Pt.slots] at X197 l197 y197 z197 st197 hQ197
      subst l197 y197 z197
      obtain ⟨rfl, N197q, e197⟩ := hQ197
      have N197 := Fr.app N196 N197q
      have Q198 := (Q171.keep i176_2)
      obtain ⟨cq199, kq199, q199a, q199b, q199c⟩ := isOf hZ e197 Q190
      obtain ⟨_, _, ⟨T199, L199, k199, n199⟩, -, X199, ⟨Lc199, hQ199, l199, y199, z199⟩, st199⟩ := X197.virtualBack hx (y := (⟨"com/example/path_acl_check/pathaclcheck/AclRecord", "equals", "(Ljava/lang/Object;)Z"⟩ : MethodName)) (z := (⟨"com/example/path_acl_check/pathaclcheck/AclRecord", "equals", "(Ljava/lang/Object;)Z"⟩ : MethodName)) hown (mvT hZ (hw _ (List.mem_of_getElem? (i := 48) rfl))) (mvT hZ (hw _ (List.mem_of_getElem? (i := 49) rfl))) (notFace_of_selects (args := #[]) (mvT hZ (hw _ (List.mem_of_getElem? (i := 51) rfl)))) (mvT hZ (hw _ (List.mem_of_getElem? (i := 51) rfl))) (mvT hZ (hw _ (List.mem_of_getElem? (i := 50) rfl))) (by decide) (backOf (W := 0) (rm4_t l Z a0 hw [] b154 b147 T176.heap n0 (Nat.le_trans Z0 K176.1) Q198 ne_b147_b154) hZ (hw _ (List.mem_of_getElem? (i := 52) rfl)) (hw _ (List.mem_of_getElem? (i := 30) rfl)) (by decide) (by decide)) q199a q199c (g := (mkF m 147 #[.val (.int p0), .val (.int p1), .val (.int p2), .val (.int (p1 &&& (15 : Int32))), .val (.int (p2 &&& (15 : Int32))), .val (.int (1 : Int32)), .val (.ref b147), .val (.ref b149), .val (.ref b147), .val (.ref b154), .val (.ref b164), .val (.int (0 : Int32)), .val (.int (own_f_rm4_e (p1 &&& (15 : Int32)) (p2 &&& (15 : Int32)))), .val (.int (own_f_rm4_e (p2 &&& (15 : Int32)) (p1 &&& (15 : Int32)))), .val (.int (1 : Int32)), .val (.int (1 : Int32)), .val (.int (0 : Int32)), .unset] [(.ref b147), (.ref b154)])) rfl (by rw [hml]; rfl) (Steps.refl _) (argsL := [(.ref b147)]) (rest := []) (lenOf own_pd3 rfl) rfl (by show 2 * 0 + _ ≤ _; exact Nat.le_of_eq rfl) (hb hby at_147) (fun _ _ => ⟨rfl, e197, (by decide : 16 + 0 ≤ _), (by decide : 418 + 0 ≤ _)⟩)
      dsimp only [Pt.U, Pt.locs, Pt.cells, Pt.slots] at X199 l199 y199 z199 st199 hQ199
      subst l199 y199 z199
      obtain ⟨rfl, N199q, e199⟩ := hQ199
      have N199 := Fr.app N197 N199q
      have hc156_200 : (own_f_rm4_e (p1 &&& (15 : Int32)) (p2 &&& (15 : Int32))) = (0 : Int32) := by unfold own_f_rm4_e; rw [if_neg (fun q => hc89 q.symm)]
      have hc163_201 : (own_f_rm4_e (p2 &&& (15 : Int32)) (p1 &&& (15 : Int32))) = (0 : Int32) := by unfold own_f_rm4_e; rw [if_neg hc89]
      obtain ⟨fs, hr, hrun, hended, hW, hsame⟩ := X199.leave (v := some (.int (1 : Int32))) (fun h => by rw [Bd.returns] at h; cases h)
      refine ⟨_, _, pre177 _ ?_, hrun, hended, _, _, rfl, ?_, ⟨_, rfl⟩, hW, hsame.mono (by decide) (by decide)⟩
      · show Steps p.tables e below (T176.setTop (mkF m 89 #[.val (.int p0), .val (.int p1), .val (.int p2), .val (.int (p1 &&& (15 : Int32))), .val (.int (p2 &&& (15 : Int32))), .val (.int (1 : Int32)), .val (.ref b147), .val (.ref b149), .val (.ref b147), .val (.ref b154), .val (.ref b164), .unset, .unset, .unset, .unset, .unset, .unset, .unset] [(.int (p2 &&& (15 : Int32))), (.int (p1 &&& (15 : Int32)))])) _
        refine XS.icmpYes X176.here hx rfl (pc0 := 89) (pc' := 96) rfl (hb hby at_89) rfl (feq hc89).2 (by decide) (by decide) ?_
        show Steps p.tables e below (T176.setTop (mkF m 96 #[.val (.int p0), .val (.int p1), .val (.int p2), .val (.int (p1 &&& (15 : Int32))), .val (.int (p2 &&& (15 : Int32))), .val (.int (1 : Int32)), .val (.ref b147), .val (.ref b149), .val (.ref b147), .val (.ref b154), .val (.ref b164), .unset, .unset, .unset, .unset, .unset, .unset, .unset] [])) _
        refine XS.iconst X176.here hx rfl (hb hby at_96) ?_
        show Steps p.tables e below (T176.setTop (mkF m 97 #[.val (.int p0), .val (.int p1), .val (.int p2), .val (.int (p1 &&& (15 : Int32))), .val (.int (p2 &&& (15 : Int32))), .val (.int (1 : Int32)), .val (.ref b147), .val (.ref b149), .val (.ref b147), .val (.ref b154), .val (.ref b164), .unset, .unset, .unset, .unset, .unset, .unset, .unset] [(.int (0 : Int32))])) _
        refine XS.istore X176.here hx rfl (hb hby at_97) rfl (l' := #[.val (.int p0), .val (.int p1), .val (.int p2), .val (.int (p1 &&& (15 : Int32))), .val (.int (p2 &&& (15 : Int32))), .val (.int (1 : Int32)), .val (.ref b147), .val (.ref b149), .val (.ref b147), .val (.ref b154), .val (.ref b164), .val (.int (0 : Int32)), .unset, .unset, .unset, .unset, .unset, .unset]) rfl ?_
        show Steps p.tables e below (T176.setTop (mkF m 99 #[.val (.int p0), .val (.int p1), .val (.int p2), .val (.int (p1 &&& (15 : Int32))), .val (.int (p2 &&& (15 : Int32))), .val (.int (1 : Int32)), .val (.ref b147), .val (.ref b149), .val (.ref b147), .val (.ref b154), .val (.ref b164), .val (.int (0 : Int32)), .unset, .unset, .unset, .unset, .unset, .unset] [])) _
        refine XS.aload X176.here hx rfl (hb hby at_99) rfl rfl ?_
        show Steps p.tables e below (T176.setTop (mkF m 101 #[.val (.int p0), .val (.int p1), .val (.int p2), .val (.int (p1 &&& (15 : Int32))), .val (.int (p2 &&& (15 : Int32))), .val (.int (1 : Int32)), .val (.ref b147), .val (.ref b149), .val (.ref b147), .val (.ref b154), .val (.ref b164), .val (.int (0 : Int32)), .unset, .unset, .unset, .unset, .unset, .unset] [(.ref b154)])) _
        refine XS.aload X176.here hx rfl (hb hby at_101) rfl rfl ?_
        show Steps p.tables e below (T176.setTop (mkF m 103 #[.val (.int p0), .val (.int p1), .val (.int p2), .val (.int (p1 &&& (15 : Int32))), .val (.int (p2 &&& (15 : Int32))), .val (.int (1 : Int32)), .val (.ref b147), .val (.ref b149), .val (.ref b147), .val (.ref b154), .val (.ref b164), .val (.int (0 : Int32)), .unset, .unset, .unset, .unset, .unset, .unset] [(.ref b164), (.ref b154)])) _
        refine st193.trans ?_
        show Steps p.tables e below (T193.setTop (mkF m 106 #[.val (.int p0), .val (.int p1), .val (.int p2), .val (.int (p1 &&& (15 : Int32))), .val (.int (p2 &&& (15 : Int32))), .val (.int (1 : Int32)), .val (.ref b147), .val (.ref b149), .val (.ref b147), .val (.ref b154), .val (.ref b164), .val (.int (0 : Int32)), .unset, .unset, .unset, .unset, .unset, .unset] [(.int (own_f_rm4_e (p1 &&& (15 : Int32)) (p2 &&& (15 : Int32))))])) _
        refine XS.istore X193.here hx rfl (hb hby at_106) rfl (l' := #[.val (.int p0), .val (.int p1), .val (.int p2), .val (.int (p1 &&& (15 : Int32))), .val (.int (p2 &&& (15 : Int32))), .val (.int (1 : Int32)), .val (.ref b147), .val (.ref b149), .val (.ref b147), .val (.ref b154), .val (.ref b164), .val (.int (0 : Int32)), .val (.int (own_f_rm4_e (p1 &&& (15 : Int32)) (p2 &&& (15 : Int32)))), .unset, .unset, .unset, .unset, .unset]) rfl ?_
        show Steps p.tables e below (T193.setTop (mkF m 108 #[.val (.int p0), .val (.int p1), .val (.int p2), .val (.int (p1 &&& (15 : Int32))), .val (.int (p2 &&& (15 : Int32))), .val (.int (1 : Int32)), .val (.ref b147), .val (.ref b149), .val (.ref b147), .val (.ref b154), .val (.ref b164), .val (.int (0 : Int32)), .val (.int (own_f_rm4_e (p1 &&& (15 : Int32)) (p2 &&& (15 : Int32)))), .unset, .unset, .unset, .unset, .unset] [])) _
        refine XS.aload X193.here hx rfl (hb hby at_108) rfl rfl ?_
        show Steps p.tables e below (T193.setTop (mkF m 110 #[.val (.int p0), .val (.int p1), .val (.int p2), .val (.int (p1 &&& (15 : Int32))), .val (.int (p2 &&& (15 : Int32))), .val (.int (1 : Int32)), .val (.ref b147), .val (.ref b149), .val (.ref b147), .val (.ref b154), .val (.ref b164), .val (.int (0 : Int32)), .val (.int (own_f_rm4_e (p1 &&& (15 : Int32)) (p2 &&& (15 : Int32)))), .unset, .unset, .unset, .unset, .unset] [(.ref b164)])) _
        refine XS.aload X193.here hx rfl (hb hby at_110) rfl rfl ?_
        show Steps p.tables e below (T193.setTop (mkF m 112 #[.val (.int p0), .val (.int p1), .val (.int p2), .val (.int (p1 &&& (15 : Int32))), .val (.int (p2 &&& (15 : Int32))), .val (.int (1 : Int32)), .val (.ref b147), .val (.ref b149), .val (.ref b147), .val (.ref b154), .val (.ref b164), .val (.int (0 : Int32)), .val (.int (own_f_rm4_e (p1 &&& (15 : Int32)) (p2 &&& (15 : Int32)))), .unset, .unset, .unset, .unset, .unset] [(.ref b154), (.ref b164)])) _
        refine st194.trans ?_
        show Steps p.tables e below (T194.setTop (mkF m 115 #[.val (.int p0), .val (.int p1), .val (.int p2), .val (.int (p1 &&& (15 : Int32))), .val (.int (p2 &&& (15 : Int32))), .val (.int (1 : Int32)), .val (.ref b147), .val (.ref b149), .val (.ref b147), .val (.ref b154), .val (.ref b164), .val (.int (0 : Int32)), .val (.int (own_f_rm4_e (p1 &&& (15 : Int32)) (p2 &&& (15 : Int32)))), .unset, .unset, .unset, .unset, .unset] [(.int (own_f_rm4_e (p2 &&& (15 : Int32)) (p1 &&& (15 : Int32))))])) _
        refine XS.istore X194.here hx rfl (hb hby at_115) rfl (l' := #[.val (.int p0), .val (.int p1), .val (.int p2), .val (.int (p1 &&& (15 : Int32))), .val (.int (p2 &&& (15 : Int32))), .val (.int (1 : Int32)), .val (.ref b147), .val (.ref b149), .val (.ref b147), .val (.ref b154), .val (.ref b164), .val (.int (0 : Int32)), .val (.int (own_f_rm4_e (p1 &&& (15 : Int32)) (p2 &&& (15 : Int32)))), .val (.int (own_f_rm4_e (p2 &&& (15 : Int32)) (p1 &&& (15 : Int32)))), .unset, .unset, .unset, .unset]) rfl ?_
        show Steps p.tables e below (T194.setTop (mkF m 117 #[.val (.int p0), .val (.int p1), .val (.int p2), .val (.int (p1 &&& (15 : Int32))), .val (.int (p2 &&& (15 : Int32))), .val (.int (1 : Int32)), .val (.ref b147), .val (.ref b149), .val (.ref b147), .val (.ref b154), .val (.ref b164), .val (.int (0 : Int32)), .val (.int (own_f_rm4_e (p1 &&& (15 : Int32)) (p2 &&& (15 : Int32)))), .val (.int (own_f_rm4_e (p2 &&& (15 : Int32)) (p1 &&& (15 : Int32)))), .unset, .unset, .unset, .unset] [])) _
        refine XS.aload X194.here hx rfl (hb hby at_117) rfl rfl ?_
        show Steps p.tables e below (T194.setTop (mkF m 119 #[.val (.int p0), .val (.int p1), .val (.int p2), .val (.int (p1 &&& (15 : Int32))), .val (.int (p2 &&& (15 : Int32))), .val (.int (1 : Int32)), .val (.ref b147), .val (.ref b149), .val (.ref b147), .val (.ref b154), .val (.ref b164), .val (.int (0 : Int32)), .val (.int (own_f_rm4_e (p1 &&& (15 : Int32)) (p2 &&& (15 : Int32)))), .val (.int (own_f_rm4_e (p2 &&& (15 : Int32)) (p1 &&& (15 : Int32)))), .unset, .unset, .unset, .unset] [(.ref b154)])) _
        refine XS.aload X194.here hx rfl (hb hby at_119) rfl rfl ?_
        show Steps p.tables e below (T194.setTop (mkF m 121 #[.val (.int p0), .val (.int p1), .val (.int p2), .val (.int (p1 &&& (15 : Int32))), .val (.int (p2 &&& (15 : Int32))), .val (.int (1 : Int32)), .val (.ref b147), .val (.ref b149), .val (.ref b147), .val (.ref b154), .val (.ref b164), .val (.int (0 : Int32)), .val (.int (own_f_rm4_e (p1 &&& (15 : Int32)) (p2 &&& (15 : Int32)))), .val (.int (own_f_rm4_e (p2 &&& (15 : Int32)) (p1 &&& (15 : Int32)))), .unset, .unset, .unset, .unset] [(.ref b154), (.ref b154)])) _
        refine st195.trans ?_
        show Steps p.tables e below (T195.setTop (mkF m 124 #[.val (.int p0), .val (.int p1), .val (.int p2), .val (.int (p1 &&& (15 : Int32))), .val (.int (p2 &&& (15 : Int32))), .val (.int (1 : Int32)), .val (.ref b147), .val (.ref b149), .val (.ref b147), .val (.ref b154), .val (.ref b164), .val (.int (0 : Int32)), .val (.int (own_f_rm4_e (p1 &&& (15 : Int32)) (p2 &&& (15 : Int32)))), .val (.int (own_f_rm4_e (p2 &&& (15 : Int32)) (p1 &&& (15 : Int32)))), .unset, .unset, .unset, .unset] [(.int (1 : Int32))])) _
        refine XS.istore X195.here hx rfl (hb hby at_124) rfl (l' := #[.val (.int p0), .val (.int p1), .val (.int p2), .val (.int (p1 &&& (15 : Int32))), .val (.int (p2 &&& (15 : Int32))), .val (.int (1 : Int32)), .val (.ref b147), .val (.ref b149), .val (.ref b147), .val (.ref b154), .val (.ref b164), .val (.int (0 : Int32)), .val (.int (own_f_rm4_e (p1 &&& (15 : Int32)) (p2 &&& (15 : Int32)))), .val (.int (own_f_rm4_e (p2 &&& (15 : Int32)) (p1 &&& (15 : Int32)))), .val (.int (1 : Int32)), .unset, .unset, .unset]) rfl ?_
        show Steps p.tables e below (T195.setTop (mkF m 126 #[.val (.int p0), .val (.int p1), .val (.int p2), .val (.int (p1 &&& (15 : Int32))), .val (.int (p2 &&& (15 : Int32))), .val (.int (1 : Int32)), .val (.ref b147), .val (.ref b149), .val (.ref b147), .val (.ref b154), .val (.ref b164), .val (.int (0 : Int32)), .val (.int (own_f_rm4_e (p1 &&& (15 : Int32)) (p2 &&& (15 : Int32)))), .val (.int (own_f_rm4_e (p2 &&& (15 : Int32)) (p1 &&& (15 : Int32)))), .val (.int (1 : Int32)), .unset, .unset, .unset] [])) _
        refine XS.aload X195.here hx rfl (hb hby at_126) rfl rfl ?_
        show Steps p.tables e below (T195.setTop (mkF m 128 #[.val (.int p0), .val (.int p1), .val (.int p2), .val (.int (p1 &&& (15 : Int32))), .val (.int (p2 &&& (15 : Int32))), .val (.int (1 : Int32)), .val (.ref b147), .val (.ref b149), .val (.ref b147), .val (.ref b154), .val (.ref b164), .val (.int (0 : Int32)), .val (.int (own_f_rm4_e (p1 &&& (15 : Int32)) (p2 &&& (15 : Int32)))), .val (.int (own_f_rm4_e (p2 &&& (15 : Int32)) (p1 &&& (15 : Int32)))), .val (.int (1 : Int32)), .unset, .unset, .unset] [(.ref b164)])) _
        refine XS.aload X195.here hx rfl (hb hby at_128) rfl rfl ?_
        show Steps p.tables e below (T195.setTop (mkF m 130 #[.val (.int p0), .val (.int p1), .val (.int p2), .val (.int (p1 &&& (15 : Int32))), .val (.int (p2 &&& (15 : Int32))), .val (.int (1 : Int32)), .val (.ref b147), .val (.ref b149), .val (.ref b147), .val (.ref b154), .val (.ref b164), .val (.int (0 : Int32)), .val (.int (own_f_rm4_e (p1 &&& (15 : Int32)) (p2 &&& (15 : Int32)))), .val (.int (own_f_rm4_e (p2 &&& (15 : Int32)) (p1 &&& (15 : Int32)))), .val (.int (1 : Int32)), .unset, .unset, .unset] [(.ref b164), (.ref b164)])) _
        refine st196.trans ?_
        show Steps p.tables e below (T196.setTop (mkF m 133 #[.val (.int p0), .val (.int p1), .val (.int p2), .val (.int (p1 &&& (15 : Int32))), .val (.int (p2 &&& (15 : Int32))), .val (.int (1 : Int32)), .val (.ref b147), .val (.ref b149), .val (.ref b147), .val (.ref b154), .val (.ref b164), .val (.int (0 : Int32)), .val (.int (own_f_rm4_e (p1 &&& (15 : Int32)) (p2 &&& (15 : Int32)))), .val (.int (own_f_rm4_e (p2 &&& (15 : Int32)) (p1 &&& (15 : Int32)))), .val (.int (1 : Int32)), .unset, .unset, .unset] [(.int (1 : Int32))])) _
        refine XS.istore X196.here hx rfl (hb hby at_133) rfl (l' := #[.val (.int p0), .val (.int p1), .val (.int p2), .val (.int (p1 &&& (15 : Int32))), .val (.int (p2 &&& (15 : Int32))), .val (.int (1 : Int32)), .val (.ref b147), .val (.ref b149), .val (.ref b147), .val (.ref b154), .val (.ref b164), .val (.int (0 : Int32)), .val (.int (own_f_rm4_e (p1 &&& (15 : Int32)) (p2 &&& (15 : Int32)))), .val (.int (own_f_rm4_e (p2 &&& (15 : Int32)) (p1 &&& (15 : Int32)))), .val (.int (1 : Int32)), .val (.int (1 : Int32)), .unset, .unset]) rfl ?_
        show Steps p.tables e below (T196.setTop (mkF m 135 #[.val (.int p0), .val (.int p1), .val (.int p2), .val (.int (p1 &&& (15 : Int32))), .val (.int (p2 &&& (15 : Int32))), .val (.int (1 : Int32)), .val (.ref b147), .val (.ref b149), .val (.ref b147), .val (.ref b154), .val (.ref b164), .val (.int (0 : Int32)), .val (.int (own_f_rm4_e (p1 &&& (15 : Int32)) (p2 &&& (15 : Int32)))), .val (.int (own_f_rm4_e (p2 &&& (15 : Int32)) (p1 &&& (15 : Int32)))), .val (.int (1 : Int32)), .val (.int (1 : Int32)), .unset, .unset] [])) _
        refine XS.aload X196.here hx rfl (hb hby at_135) rfl rfl ?_
        show Steps p.tables e below (T196.setTop (mkF m 137 #[.val (.int p0), .val (.int p1), .val (.int p2), .val (.int (p1 &&& (15 : Int32))), .val (.int (p2 &&& (15 : Int32))), .val (.int (1 : Int32)), .val (.ref b147), .val (.ref b149), .val (.ref b147), .val (.ref b154), .val (.ref b164), .val (.int (0 : Int32)), .val (.int (own_f_rm4_e (p1 &&& (15 : Int32)) (p2 &&& (15 : Int32)))), .val (.int (own_f_rm4_e (p2 &&& (15 : Int32)) (p1 &&& (15 : Int32)))), .val (.int (1 : Int32)), .val (.int (1 : Int32)), .unset, .unset] [(.ref b154)])) _
        refine XS.aconstNull X196.here hx rfl (hb hby at_137) ?_
        show Steps p.tables e below (T196.setTop (mkF m 138 #[.val (.int p0), .val (.int p1), .val (.int p2), .val (.int (p1 &&& (15 : Int32))), .val (.int (p2 &&& (15 : Int32))), .val (.int (1 : Int32)), .val (.ref b147), .val (.ref b149), .val (.ref b147), .val (.ref b154), .val (.ref b164), .val (.int (0 : Int32)), .val (.int (own_f_rm4_e (p1 &&& (15 : Int32)) (p2 &&& (15 : Int32)))), .val (.int (own_f_rm4_e (p2 &&& (15 : Int32)) (p1 &&& (15 : Int32)))), .val (.int (1 : Int32)), .val (.int (1 : Int32)), .unset, .unset] [.null, (.ref b154)])) _
        refine st197.trans ?_
        show Steps p.tables e below (T197.setTop (mkF m 141 #[.val (.int p0), .val (.int p1), .val (.int p2), .val (.int (p1 &&& (15 : Int32))), .val (.int (p2 &&& (15 : Int32))), .val (.int (1 : Int32)), .val (.ref b147), .val (.ref b149), .val (.ref b147), .val (.ref b154), .val (.ref b164), .val (.int (0 : Int32)), .val (.int (own_f_rm4_e (p1 &&& (15 : Int32)) (p2 &&& (15 : Int32)))), .val (.int (own_f_rm4_e (p2 &&& (15 : Int32)) (p1 &&& (15 : Int32)))), .val (.int (1 : Int32)), .val (.int (1 : Int32)), .unset, .unset] [(.int (0 : Int32))])) _
        refine XS.istore X197.here hx rfl (hb hby at_141) rfl (l' := #[.val (.int p0), .val (.int p1), .val (.int p2), .val (.int (p1 &&& (15 : Int32))), .val (.int (p2 &&& (15 : Int32))), .val (.int (1 : Int32)), .val (.ref b147), .val (.ref b149), .val (.ref b147), .val (.ref b154), .val (.ref b164), .val (.int (0 : Int32)), .val (.int (own_f_rm4_e (p1 &&& (15 : Int32)) (p2 &&& (15 : Int32)))), .val (.int (own_f_rm4_e (p2 &&& (15 : Int32)) (p1 &&& (15 : Int32)))), .val (.int (1 : Int32)), .val (.int (1 : Int32)), .val (.int (0 : Int32)), .unset]) rfl ?_
        show Steps p.tables e below (T197.setTop (mkF m 143 #[.val (.int p0), .val (.int p1), .val (.int p2), .val (.int (p1 &&& (15 : Int32))), .val (.int (p2 &&& (15 : Int32))), .val (.int (1 : Int32)), .val (.ref b147), .val (.ref b149), .val (.ref b147), .val (.ref b154), .val (.ref b164), .val (.int (0 : Int32)), .val (.int (own_f_rm4_e (p1 &&& (15 : Int32)) (p2 &&& (15 : Int32)))), .val (.int (own_f_rm4_e (p2 &&& (15 : Int32)) (p1 &&& (15 : Int32)))), .val (.int (1 : Int32)), .val (.int (1 : Int32)), .val (.int (0 : Int32)), .unset] [])) _
        refine XS.aload X197.here hx rfl (hb hby at_143) rfl rfl ?_
        show Steps p.tables e below (T197.setTop (mkF m 145 #[.val (.int p0), .val (.int p1), .val (.int p2), .val (.int (p1 &&& (15 : Int32))), .val (.int (p2 &&& (15 : Int32))), .val (.int (1 : Int32)), .val (.ref b147), .val (.ref b149), .val (.ref b147), .val (.ref b154), .val (.ref b164), .val (.int (0 : Int32)), .val (.int (own_f_rm4_e (p1 &&& (15 : Int32)) (p2 &&& (15 : Int32)))), .val (.int (own_f_rm4_e (p2 &&& (15 : Int32)) (p1 &&& (15 : Int32)))), .val (.int (1 : Int32)), .val (.int (1 : Int32)), .val (.int (0 : Int32)), .unset] [(.ref b154)])) _
        refine XS.aload X197.here hx rfl (hb hby at_145) rfl rfl ?_
        show Steps p.tables e below (T197.setTop (mkF m 147 #[.val (.int p0), .val (.int p1), .val (.int p2), .val (.int (p1 &&& (15 : Int32))), .val (.int (p2 &&& (15 : Int32))), .val (.int (1 : Int32)), .val (.ref b147), .val (.ref b149), .val (.ref b147), .val (.ref b154), .val (.ref b164), .val (.int (0 : Int32)), .val (.int (own_f_rm4_e (p1 &&& (15 : Int32)) (p2 &&& (15 : Int32)))), .val (.int (own_f_rm4_e (p2 &&& (15 : Int32)) (p1 &&& (15 : Int32)))), .val (.int (1 : Int32)), .val (.int (1 : Int32)), .val (.int (0 : Int32)), .unset] [(.ref b147), (.ref b154)])) _
        refine st199.trans ?_
        show Steps p.tables e below (T199.setTop (mkF m 150 #[.val (.int p0), .val (.int p1), .val (.int p2), .val (.int (p1 &&& (15 : Int32))), .val (.int (p2 &&& (15 : Int32))), .val (.int (1 : Int32)), .val (.ref b147), .val (.ref b149), .val (.ref b147), .val (.ref b154), .val (.ref b164), .val (.int (0 : Int32)), .val (.int (own_f_rm4_e (p1 &&& (15 : Int32)) (p2 &&& (15 : Int32)))), .val (.int (own_f_rm4_e (p2 &&& (15 : Int32)) (p1 &&& (15 : Int32)))), .val (.int (1 : Int32)), .val (.int (1 : Int32)), .val (.int (0 : Int32)), .unset] [(.int (0 : Int32))])) _
        refine XS.istore X199.here hx rfl (hb hby at_150) rfl (l' := #[.val (.int p0), .val (.int p1), .val (.int p2), .val (.int (p1 &&& (15 : Int32))), .val (.int (p2 &&& (15 : Int32))), .val (.int (1 : Int32)), .val (.ref b147), .val (.ref b149), .val (.ref b147), .val (.ref b154), .val (.ref b164), .val (.int (0 : Int32)), .val (.int (own_f_rm4_e (p1 &&& (15 : Int32)) (p2 &&& (15 : Int32)))), .val (.int (own_f_rm4_e (p2 &&& (15 : Int32)) (p1 &&& (15 : Int32)))), .val (.int (1 : Int32)), .val (.int (1 : Int32)), .val (.int (0 : Int32)), .val (.int (0 : Int32))]) rfl ?_
        show Steps p.tables e below (T199.setTop (mkF m 152 #[.val (.int p0), .val (.int p1), .val (.int p2), .val (.int (p1 &&& (15 : Int32))), .val (.int (p2 &&& (15 : Int32))), .val (.int (1 : Int32)), .val (.ref b147), .val (.ref b149), .val (.ref b147), .val (.ref b154), .val (.ref b164), .val (.int (0 : Int32)), .val (.int (own_f_rm4_e (p1 &&& (15 : Int32)) (p2 &&& (15 : Int32)))), .val (.int (own_f_rm4_e (p2 &&& (15 : Int32)) (p1 &&& (15 : Int32)))), .val (.int (1 : Int32)), .val (.int (1 : Int32)), .val (.int (0 : Int32)), .val (.int (0 : Int32))] [])) _
        refine XS.iload X199.here hx rfl (hb hby at_152) rfl ?_
        show Steps p.tables e below (T199.setTop (mkF m 154 #[.val (.int p0), .val (.int p1), .val (.int p2), .val (.int (p1 &&& (15 : Int32))), .val (.int (p2 &&& (15 : Int32))), .val (.int (1 : Int32)), .val (.ref b147), .val (.ref b149), .val (.ref b147), .val (.ref b154), .val (.ref b164), .val (.int (0 : Int32)), .val (.int (own_f_rm4_e (p1 &&& (15 : Int32)) (p2 &&& (15 : Int32)))), .val (.int (own_f_rm4_e (p2 &&& (15 : Int32)) (p1 &&& (15 : Int32)))), .val (.int (1 : Int32)), .val (.int (1 : Int32)), .val (.int (0 : Int32)), .val (.int (0 : Int32))] [(.int (own_f_rm4_e (p1 &&& (15 : Int32)) (p2 &&& (15 : Int32))))])) _
        refine XS.iload X199.here hx rfl (hb hby at_154) rfl ?_
        show Steps p.tables e below (T199.setTop (mkF m 156 #[.val (.int p0), .val (.int p1), .val (.int p2), .val (.int (p1 &&& (15 : Int32))), .val (.int (p2 &&& (15 : Int32))), .val (.int (1 : Int32)), .val (.ref b147), .val (.ref b149), .val (.ref b147), .val (.ref b154), .val (.ref b164), .val (.int (0 : Int32)), .val (.int (own_f_rm4_e (p1 &&& (15 : Int32)) (p2 &&& (15 : Int32)))), .val (.int (own_f_rm4_e (p2 &&& (15 : Int32)) (p1 &&& (15 : Int32)))), .val (.int (1 : Int32)), .val (.int (1 : Int32)), .val (.int (0 : Int32)), .val (.int (0 : Int32))] [(.int (0 : Int32)), (.int (own_f_rm4_e (p1 &&& (15 : Int32)) (p2 &&& (15 : Int32))))])) _
        refine XS.icmpNo X199.here hx rfl (hb hby at_156) rfl (teq hc156_200).2 ?_
        show Steps p.tables e below (T199.setTop (mkF m 159 #[.val (.int p0), .val (.int p1), .val (.int p2), .val (.int (p1 &&& (15 : Int32))), .val (.int (p2 &&& (15 : Int32))), .val (.int (1 : Int32)), .val (.ref b147), .val (.ref b149), .val (.ref b147), .val (.ref b154), .val (.ref b164), .val (.int (0 : Int32)), .val (.int (own_f_rm4_e (p1 &&& (15 : Int32)) (p2 &&& (15 : Int32)))), .val (.int (own_f_rm4_e (p2 &&& (15 : Int32)) (p1 &&& (15 : Int32)))), .val (.int (1 : Int32)), .val (.int (1 : Int32)), .val (.int (0 : Int32)), .val (.int (0 : Int32))] [])) _
        refine XS.iload X199.here hx rfl (hb hby at_159) rfl ?_
        show Steps p.tables e below (T199.setTop (mkF m 161 #[.val (.int p0), .val (.int p1), .val (.int p2), .val (.int (p1 &&& (15 : Int32))), .val (.int (p2 &&& (15 : Int32))), .val (.int (1 : Int32)), .val (.ref b147), .val (.ref b149), .val (.ref b147), .val (.ref b154), .val (.ref b164), .val (.int (0 : Int32)), .val (.int (own_f_rm4_e (p1 &&& (15 : Int32)) (p2 &&& (15 : Int32)))), .val (.int (own_f_rm4_e (p2 &&& (15 : Int32)) (p1 &&& (15 : Int32)))), .val (.int (1 : Int32)), .val (.int (1 : Int32)), .val (.int (0 : Int32)), .val (.int (0 : Int32))] [(.int (own_f_rm4_e (p2 &&& (15 : Int32)) (p1 &&& (15 : Int32))))])) _
        refine XS.iload X199.here hx rfl (hb hby at_161) rfl ?_
        show Steps p.tables e below (T199.setTop (mkF m 163 #[.val (.int p0), .val (.int p1), .val (.int p2), .val (.int (p1 &&& (15 : Int32))), .val (.int (p2 &&& (15 : Int32))), .val (.int (1 : Int32)), .val (.ref b147), .val (.ref b149), .val (.ref b147), .val (.ref b154), .val (.ref b164), .val (.int (0 : Int32)), .val (.int (own_f_rm4_e (p1 &&& (15 : Int32)) (p2 &&& (15 : Int32)))), .val (.int (own_f_rm4_e (p2 &&& (15 : Int32)) (p1 &&& (15 : Int32)))), .val (.int (1 : Int32)), .val (.int (1 : Int32)), .val (.int (0 : Int32)), .val (.int (0 : Int32))] [(.int (0 : Int32)), (.int (own_f_rm4_e (p2 &&& (15 : Int32)) (p1 &&& (15 : Int32))))])) _
        refine XS.icmpNo X199.here hx rfl (hb hby at_163) rfl (teq hc163_201).2 ?_
        show Steps p.tables e below (T199.setTop (mkF m 166 #[.val (.int p0), .val (.int p1), .val (.int p2), .val (.int (p1 &&& (15 : Int32))), .val (.int (p2 &&& (15 : Int32))), .val (.int (1 : Int32)), .val (.ref b147), .val (.ref b149), .val (.ref b147), .val (.ref b154), .val (.ref b164), .val (.int (0 : Int32)), .val (.int (own_f_rm4_e (p1 &&& (15 : Int32)) (p2 &&& (15 : Int32)))), .val (.int (own_f_rm4_e (p2 &&& (15 : Int32)) (p1 &&& (15 : Int32)))), .val (.int (1 : Int32)), .val (.int (1 : Int32)), .val (.int (0 : Int32)), .val (.int (0 : Int32))] [])) _
        refine XS.iload X199.here hx rfl (hb hby at_166) rfl ?_
        show Steps p.tables e below (T199.setTop (mkF m 168 #[.val (.int p0), .val (.int p1), .val (.int p2), .val (.int (p1 &&& (15 : Int32))), .val (.int (p2 &&& (15 : Int32))), .val (.int (1 : Int32)), .val (.ref b147), .val (.ref b149), .val (.ref b147), .val (.ref b154), .val (.ref b164), .val (.int (0 : Int32)), .val (.int (own_f_rm4_e (p1 &&& (15 : Int32)) (p2 &&& (15 : Int32)))), .val (.int (own_f_rm4_e (p2 &&& (15 : Int32)) (p1 &&& (15 : Int32)))), .val (.int (1 : Int32)), .val (.int (1 : Int32)), .val (.int (0 : Int32)), .val (.int (0 : Int32))] [(.int (1 : Int32))])) _
        refine XS.ifNo X199.here hx rfl (hb hby at_168) rfl ((if0 _ _).trans (feq (by decide : ¬ ((1 : Int32) = (0 : Int32)))).1) ?_
        show Steps p.tables e below (T199.setTop (mkF m 171 #[.val (.int p0), .val (.int p1), .val (.int p2), .val (.int (p1 &&& (15 : Int32))), .val (.int (p2 &&& (15 : Int32))), .val (.int (1 : Int32)), .val (.ref b147), .val (.ref b149), .val (.ref b147), .val (.ref b154), .val (.ref b164), .val (.int (0 : Int32)), .val (.int (own_f_rm4_e (p1 &&& (15 : Int32)) (p2 &&& (15 : Int32)))), .val (.int (own_f_rm4_e (p2 &&& (15 : Int32)) (p1 &&& (15 : Int32)))), .val (.int (1 : Int32)), .val (.int (1 : Int32)), .val (.int (0 : Int32)), .val (.int (0 : Int32))] [])) _
        refine XS.iload X199.here hx rfl (hb hby at_171) rfl ?_
        show Steps p.tables e below (T199.setTop (mkF m 173 #[.val (.int p0), .val (.int p1), .val (.int p2), .val (.int (p1 &&& (15 : Int32))), .val (.int (p2 &&& (15 : Int32))), .val (.int (1 : Int32)), .val (.ref b147), .val (.ref b149), .val (.ref b147), .val (.ref b154), .val (.ref b164), .val (.int (0 : Int32)), .val (.int (own_f_rm4_e (p1 &&& (15 : Int32)) (p2 &&& (15 : Int32)))), .val (.int (own_f_rm4_e (p2 &&& (15 : Int32)) (p1 &&& (15 : Int32)))), .val (.int (1 : Int32)), .val (.int (1 : Int32)), .val (.int (0 : Int32)), .val (.int (0 : Int32))] [(.int (1 : Int32))])) _
        refine XS.ifNo X199.here hx rfl (hb hby at_173) rfl ((if0 _ _).trans (feq (by decide : ¬ ((1 : Int32) = (0 : Int32)))).1) ?_
        show Steps p.tables e below (T199.setTop (mkF m 176 #[.val (.int p0), .val (.int p1), .val (.int p2), .val (.int (p1 &&& (15 : Int32))), .val (.int (p2 &&& (15 : Int32))), .val (.int (1 : Int32)), .val (.ref b147), .val (.ref b149), .val (.ref b147), .val (.ref b154), .val (.ref b164), .val (.int (0 : Int32)), .val (.int (own_f_rm4_e (p1 &&& (15 : Int32)) (p2 &&& (15 : Int32)))), .val (.int (own_f_rm4_e (p2 &&& (15 : Int32)) (p1 &&& (15 : Int32)))), .val (.int (1 : Int32)), .val (.int (1 : Int32)), .val (.int (0 : Int32)), .val (.int (0 : Int32))] [])) _
        refine XS.iload X199.here hx rfl (hb hby at_176) rfl ?_
        show Steps p.tables e below (T199.setTop (mkF m 178 #[.val (.int p0), .val (.int p1), .val (.int p2), .val (.int (p1 &&& (15 : Int32))), .val (.int (p2 &&& (15 : Int32))), .val (.int (1 : Int32)), .val (.ref b147), .val (.ref b149), .val (.ref b147), .val (.ref b154), .val (.ref b164), .val (.int (0 : Int32)), .val (.int (own_f_rm4_e (p1 &&& (15 : Int32)) (p2 &&& (15 : Int32)))), .val (.int (own_f_rm4_e (p2 &&& (15 : Int32)) (p1 &&& (15 : Int32)))), .val (.int (1 : Int32)), .val (.int (1 : Int32)), .val (.int (0 : Int32)), .val (.int (0 : Int32))] [(.int (0 : Int32))])) _
        refine XS.ifNo X199.here hx rfl (hb hby at_178) rfl ((if0 _ _).trans (teq (by decide : ((0 : Int32) = (0 : Int32)))).2) ?_
        show Steps p.tables e below (T199.setTop (mkF m 181 #[.val (.int p0), .val (.int p1), .val (.int p2), .val (.int (p1 &&& (15 : Int32))), .val (.int (p2 &&& (15 : Int32))), .val (.int (1 : Int32)), .val (.ref b147), .val (.ref b149), .val (.ref b147), .val (.ref b154), .val (.ref b164), .val (.int (0 : Int32)), .val (.int (own_f_rm4_e (p1 &&& (15 : Int32)) (p2 &&& (15 : Int32)))), .val (.int (own_f_rm4_e (p2 &&& (15 : Int32)) (p1 &&& (15 : Int32)))), .val (.int (1 : Int32)), .val (.int (1 : Int32)), .val (.int (0 : Int32)), .val (.int (0 : Int32))] [])) _
        refine XS.iload X199.here hx rfl (hb hby at_181) rfl ?_
        show Steps p.tables e below (T199.setTop (mkF m 183 #[.val (.int p0), .val (.int p1), .val (.int p2), .val (.int (p1 &&& (15 : Int32))), .val (.int (p2 &&& (15 : Int32))), .val (.int (1 : Int32)), .val (.ref b147), .val (.ref b149), .val (.ref b147), .val (.ref b154), .val (.ref b164), .val (.int (0 : Int32)), .val (.int (own_f_rm4_e (p1 &&& (15 : Int32)) (p2 &&& (15 : Int32)))), .val (.int (own_f_rm4_e (p2 &&& (15 : Int32)) (p1 &&& (15 : Int32)))), .val (.int (1 : Int32)), .val (.int (1 : Int32)), .val (.int (0 : Int32)), .val (.int (0 : Int32))] [(.int (0 : Int32))])) _
        refine XS.ifNo X199.here hx rfl (hb hby at_183) rfl ((if0 _ _).trans (teq (by decide : ((0 : Int32) = (0 : Int32)))).2) ?_
        show Steps p.tables e below (T199.setTop (mkF m 186 #[.val (.int p0), .val (.int p1), .val (.int p2), .val (.int (p1 &&& (15 : Int32))), .val (.int (p2 &&& (15 : Int32))), .val (.int (1 : Int32)), .val (.ref b147), .val (.ref b149), .val (.ref b147), .val (.ref b154), .val (.ref b164), .val (.int (0 : Int32)), .val (.int (own_f_rm4_e (p1 &&& (15 : Int32)) (p2 &&& (15 : Int32)))), .val (.int (own_f_rm4_e (p2 &&& (15 : Int32)) (p1 &&& (15 : Int32)))), .val (.int (1 : Int32)), .val (.int (1 : Int32)), .val (.int (0 : Int32)), .val (.int (0 : Int32))] [])) _
        refine XS.iconst X199.here hx rfl (hb hby at_186) ?_
        show Steps p.tables e below (T199.setTop (mkF m 187 #[.val (.int p0), .val (.int p1), .val (.int p2), .val (.int (p1 &&& (15 : Int32))), .val (.int (p2 &&& (15 : Int32))), .val (.int (1 : Int32)), .val (.ref b147), .val (.ref b149), .val (.ref b147), .val (.ref b154), .val (.ref b164), .val (.int (0 : Int32)), .val (.int (own_f_rm4_e (p1 &&& (15 : Int32)) (p2 &&& (15 : Int32)))), .val (.int (own_f_rm4_e (p2 &&& (15 : Int32)) (p1 &&& (15 : Int32)))), .val (.int (1 : Int32)), .val (.int (1 : Int32)), .val (.int (0 : Int32)), .val (.int (0 : Int32))] [(.int (1 : Int32))])) _
        refine XS.goto X199.here hx rfl (pc0 := 187) (pc' := 191) rfl (hb hby at_187) (by decide) (by decide) ?_
        show Steps p.tables e below (T199.setTop (mkF m 191 #[.val (.int p0), .val (.int p1), .val (.int p2), .val (.int (p1 &&& (15 : Int32))), .val (.int (p2 &&& (15 : Int32))), .val (.int (1 : Int32)), .val (.ref b147), .val (.ref b149), .val (.ref b147), .val (.ref b154), .val (.ref b164), .val (.int (0 : Int32)), .val (.int (own_f_rm4_e (p1 &&& (15 : Int32)) (p2 &&& (15 : Int32)))), .val (.int (own_f_rm4_e (p2 &&& (15 : Int32)) (p1 &&& (15 : Int32)))), .val (.int (1 : Int32)), .val (.int (1 : Int32)), .val (.int (0 : Int32)), .val (.int (0 : Int32))] [(.int (1 : Int32))])) _
        exact retN X199 hx (t := .boolean) Bd.returns (by simp) (hb hby at_191) hr
      · show Q0 Z p0 p1 p2 h0 n0 _ T199.heap _
        rw [e199]
        exact ⟨rfl, N199⟩
set_option maxRecDepth 65536 in
set_option maxHeartbeats 40000000 in
theorem comes_1 {Post : Tables → Env → Array Value → State → Outcome → State → Prop} (hpost : ∀ tb e args s v u, (limb_1_1.after args s (.returned v) u = true ∧ limb_1_2.after args s (.returned v) u = true ∧ True) → FrameEnd s (.returned v) u (Jvm.fieldLocs frame_1_writes args s ++ Jvm.arrayLocs frame_1_arrays args s ++ Jvm.staticLocs frame_1_statics s) 40 960 → Post tb e args s (.returned v) u) :
    ArmFor flags0 classFile x code maxLocals ret World_1 tables_1 room_1 Calls_1 rest_1 Pre_1 Post := by
  intro l hfl _ _ p e ha hc hk s m args below hf hA hF happ hP
  obtain ⟨hcalls, hrest, hpre⟩ := hP
  obtain ⟨-, -, -, hnamed, -, -, -, hat⟩ := (Spec.applies_iff hf).mp happ
  obtain ⟨hg, hn⟩ := and_e (Cond.before_iff.mp (show (Jvm.Cond.and given_1 narrow_1).before args s = true from hpre))
  obtain ⟨hcount, hg0⟩ := and_e hg
  obtain ⟨hi0, hg1⟩ := and_e hg0
  obtain ⟨hi1, hg2⟩ := and_e hg1
  have hi2 := hg2
  obtain ⟨w0, w1, w2, rfl⟩ : ∃ w0 w1 w2 : Value, args = #[w0, w1, w2] := by
    have hs : args.size = 3 := by simpa [Cond.value, given_1] using hcount
    obtain ⟨L⟩ := args
    match L, hs with
    | [w0, w1, w2], _ => exact ⟨w0, w1, w2, rfl⟩
  have hw := fun d (hd : d ∈ tables_1) => atoms_spec (ws := Jvm.Cond.code x code maxLocals ret :: tables_1) hat d (List.mem_cons_of_mem _ hd)
  have hfit : Fit s := fun {y c} hc i hi => by
    obtain ⟨ha, rfl⟩ := Array.getElem?_eq_some_iff.mp hc
    have q := List.all_eq_true.mp ((Array.all_eq_true_iff_forall_mem.mp hF) _ (Array.getElem_mem ha)) i (List.mem_range.mpr hi)
    simpa [Array.getElem?_eq_getElem hi] using q
  obtain ⟨i0, ei0⟩ := is_v hi0
  obtain rfl : w0 = (.int i0) := Option.some.inj ei0
  obtain ⟨i1, ei1⟩ := is_v hi1
  obtain rfl : w1 = (.int i1) := Option.some.inj ei1
  obtain ⟨i2, ei2⟩ := is_v hi2
  obtain rfl : w2 = (.int i2) := Option.some.inj ei2
  obtain ⟨n, o, h1, h2, h3, _, L, rfl, ⟨rfl, N⟩, hq⟩ := rm0 l s _ hw tables_1 i0 i1 i2  s.heap s.heap.size (Nat.le_refl _)  p e ha hc hk s m _ below hf ((Spec.applies_iff_loose hf).mp happ).1 ⟨rfl, State.Warmed39.refl s, rfl⟩ trivial
  refine ⟨n, _, h1, h2, h3, hpost _ _ _ _ _ _ ⟨Cond.after_iff.mpr rfl, Cond.after_iff.mpr (eq_i res_at (Term.int_eval (1)) rfl), trivial⟩ ⟨hq.1, hq.2.1, (hq.2.2.sift fun y hy => Or.inr (N y hy)).mono (by decide) (by decide)⟩⟩
theorem main_1_1 : Claimed_1_1 := comes_1 fun _ _ _ _ _ _ h hF => ⟨h.1, hF⟩
theorem main_1_2 : Claimed_1_2 := comes_1 fun _ _ _ _ _ _ h hF => ⟨h.2.1, hF⟩
end Jvm.Pilot.@@N@@
namespace Jvm.Pilot.@@N@@
open Jvm Jvm.ClassFile Sem Op Lib Jvm.Free Jvm.Stand Jvm.Pilot.@@N@@.Jvm.D
/-! MADE BY PROGRAM (witnessworld.py) out of the Statement's table words and the real class files: 14 classes; the members and pool entries that the words name. The judged class is class 1, her method 1. -/
namespace start1
open Jvm.ClassFile
def u (s : String) : CpInfo := .utf8 (stringToUtf16 s)
/-- a pool by its gaps: so many unusable entries, then the entry; so many at the end -/
def gap : Nat → List CpInfo → List CpInfo
  | 0, r => r
  | n + 1, r => .unusable :: gap n r
def poolList (es : List (Nat × CpInfo)) (last : Nat) : List CpInfo := es.foldr (fun e r => gap e.1 (e.2 :: r)) (gap last [])
def pool (es : List (Nat × CpInfo)) (last : Nat) : Array CpInfo := ⟨poolList es last⟩
def fileOf (pool : Array CpInfo) (this : Nat) (attrs : Array Attribute := #[]) (ms : Array MethodInfo := #[]) (fl : Nat := 33) (sup : Nat := 0) (ifs : Array Nat := #[]) (fds : Array FieldInfo := #[]) : ClassFile where
  minorVersion := 0
  majorVersion := 65
  constantPool := pool
  accessFlags := fl
  thisClass := this
  superClass := sup
  interfaces := ifs
  fields := fds
  methods := ms
  attributes := attrs
def plain (name : String) (sup : Option ClassId) : Class where
  name := name
  kind := .ordinary
  loader := none
  accessFlags := 33
  super := sup
  interfaces := #[]
  cf := none
  fields := #[]
  methods := #[]
  instanceTypes := #[]
  staticTypes := #[]
  resolved := #[]
  callSites := []
  init := .initialized
  statics := none
  mirror := none

def pool0 : Array CpInfo := pool [(5, u "<init>"), (0, u "()V"), (1, .class_ 10), (1, u "java/lang/Object")] 113

def k0c0 : Code := { maxStack := 0, maxLocals := 1, code := object_method_1_code, exceptionTable := #[], attributes := #[] }
def k0m0 : Method := { name := "<init>", desc := "()V", sig := { parameters := [], returnType := none }, accessFlags := 1, code := some k0c0 }
/-- java/lang/Object -/
def k0 : Class := { plain "java/lang/Object" none with
  accessFlags := 33
  interfaces := #[]
  cf := some (fileOf pool0 8 #[] #[{ accessFlags := 1, nameIndex := 5, descriptorIndex := 6, attributes := #[] }] 33 0 #[] #[])
  fields := #[]
  methods := #[k0m0]
  instanceTypes := #[]
  staticTypes := #[]
  resolved := Array.replicate 124 none
  statics := none }

def pool1 : Array CpInfo := pool [(2, .class_ 4), (0, .nameAndType 5 6), (0, u "java/lang/Object"), (0, u "<init>"), (0, u "()V"), (0, .class_ 8), (0, u "com/example/path_acl_check/pathaclcheck/RecordTable"), (0, .methodref 7 3), (0, .class_ 11), (0, u "com/example/path_acl_check/pathaclcheck/AclRecord"), (0, .methodref 10 13), (0, .nameAndType 5 14), (0, u "(Lcom/example/path_acl_check/pathaclcheck/RecordTable;I)V"), (0, .methodref 10 16), (0, .nameAndType 17 18), (0, u "equals"), (0, u "(Ljava/lang/Object;)Z"), (0, .class_ 20), (0, u "com/example/path_acl_check/pathaclcheck/AclRecordEqualsPinLaw"), (2, u "law"), (0, u "(III)Z")] 3

def k1m0 : Method := { name := "<init>", desc := "()V", sig := { parameters := [], returnType := none }, accessFlags := 1, code := none }
def k1c1 : Code := { maxStack := 4, maxLocals := 18, code := code, exceptionTable := #[], attributes := #[] }
def k1m1 : Method := { name := "law", desc := "(III)Z", sig := { parameters := [.int, .int, .int], returnType := some .boolean }, accessFlags := 9, code := some k1c1 }
/-- com/example/path_acl_check/pathaclcheck/AclRecordEqualsPinLaw -/
def k1 : Class := { plain "com/example/path_acl_check/pathaclcheck/AclRecordEqualsPinLaw" (some 0) with
  accessFlags := 49
  interfaces := #[]
  cf := some (fileOf pool1 19 #[] #[{ accessFlags := 1, nameIndex := 5, descriptorIndex := 6, attributes := #[] }, { accessFlags := 9, nameIndex := 23, descriptorIndex := 24, attributes := #[] }] 49 2 #[] #[])
  fields := #[]
  methods := #[k1m0, k1m1]
  instanceTypes := #[]
  staticTypes := #[]
  resolved := Array.replicate 28 none
  statics := none }

def pool2 : Array CpInfo := pool [(1, .methodref 2 3), (0, .class_ 4), (0, .nameAndType 5 6), (0, u "java/lang/Object"), (0, u "<init>"), (0, u "()V"), (0, .class_ 8), (0, u "com/example/path_acl_check/pathaclcheck/RecordTable"), (0, .fieldref 7 10), (0, .nameAndType 11 12), (0, u "root"), (0, u "I"), (0, .fieldref 7 14), (0, .nameAndType 15 16), (0, u "parents"), (0, u "[I"), (0, .fieldref 7 18), (0, .nameAndType 19 16), (0, u "protectionNumbers"), (0, .class_ 21), (0, u "com/example/path_acl_check/pathaclcheck/Protection"), (0, .fieldref 7 23), (0, .nameAndType 24 25), (0, u "protections"), (0, u "[Lcom/example/path_acl_check/pathaclcheck/Protection;"), (0, .fieldref 7 27), (0, .nameAndType 28 16), (0, u "partEnds"), (0, .fieldref 7 30), (0, .nameAndType 31 32), (0, u "parts"), (0, u "[B"), (0, .fieldref 7 34), (0, .nameAndType 35 36), (0, u "slots"), (0, u "[J"), (2, u "size"), (18, u "attached"), (5, u "protectionCount"), (73, u "childStarts"), (2, u "children"), (5, u "protection"), (0, u "(I)Lcom/example/path_acl_check/pathaclcheck/Protection;"), (13, u "partsLength"), (25, u "NONE")] 27

def k2c0 : Code := { maxStack := 2, maxLocals := 1, code := prog_26_method_1_code, exceptionTable := #[], attributes := #[] }
def k2m0 : Method := { name := "<init>", desc := "()V", sig := { parameters := [], returnType := none }, accessFlags := 0, code := some k2c0 }
def k2c1 : Code := { maxStack := 3, maxLocals := 2, code := prog_26_method_13_code, exceptionTable := #[], attributes := #[] }
def k2m1 : Method := { name := "protection", desc := "(I)Lcom/example/path_acl_check/pathaclcheck/Protection;", sig := { parameters := [.int], returnType := some (.object "com/example/path_acl_check/pathaclcheck/Protection") }, accessFlags := 0, code := some k2c1 }
/-- com/example/path_acl_check/pathaclcheck/RecordTable -/
def k2 : Class := { plain "com/example/path_acl_check/pathaclcheck/RecordTable" (some 0) with
  accessFlags := 32
  interfaces := #[]
  cf := some (fileOf pool2 7 #[] #[{ accessFlags := 0, nameIndex := 5, descriptorIndex := 6, attributes := #[] }, { accessFlags := 0, nameIndex := 147, descriptorIndex := 148, attributes := #[] }] 32 2 #[] #[{ accessFlags := 24, nameIndex := 188, descriptorIndex := 12, attributes := #[] }, { accessFlags := 2, nameIndex := 39, descriptorIndex := 12, attributes := #[] }, { accessFlags := 2, nameIndex := 11, descriptorIndex := 12, attributes := #[] }, { accessFlags := 2, nameIndex := 15, descriptorIndex := 16, attributes := #[] }, { accessFlags := 2, nameIndex := 19, descriptorIndex := 16, attributes := #[] }, { accessFlags := 2, nameIndex := 24, descriptorIndex := 25, attributes := #[] }, { accessFlags := 2, nameIndex := 64, descriptorIndex := 12, attributes := #[] }, { accessFlags := 2, nameIndex := 28, descriptorIndex := 16, attributes := #[] }, { accessFlags := 2, nameIndex := 31, descriptorIndex := 32, attributes := #[] }, { accessFlags := 2, nameIndex := 162, descriptorIndex := 12, attributes := #[] }, { accessFlags := 2, nameIndex := 35, descriptorIndex := 36, attributes := #[] }, { accessFlags := 2, nameIndex := 58, descriptorIndex := 12, attributes := #[] }, { accessFlags := 2, nameIndex := 138, descriptorIndex := 16, attributes := #[] }, { accessFlags := 2, nameIndex := 141, descriptorIndex := 16, attributes := #[] }])
  fields := #[{ name := "NONE", type := .int, accessFlags := 24, slot := 0, constantValue := 0 }, { name := "size", type := .int, accessFlags := 2, slot := 0, constantValue := 0 }, { name := "root", type := .int, accessFlags := 2, slot := 1, constantValue := 0 }, { name := "parents", type := (.array .int), accessFlags := 2, slot := 2, constantValue := 0 }, { name := "protectionNumbers", type := (.array .int), accessFlags := 2, slot := 3, constantValue := 0 }, { name := "protections", type := (.array (.object "com/example/path_acl_check/pathaclcheck/Protection")), accessFlags := 2, slot := 4, constantValue := 0 }, { name := "protectionCount", type := .int, accessFlags := 2, slot := 5, constantValue := 0 }, { name := "partEnds", type := (.array .int), accessFlags := 2, slot := 6, constantValue := 0 }, { name := "parts", type := (.array .byte), accessFlags := 2, slot := 7, constantValue := 0 }, { name := "partsLength", type := .int, accessFlags := 2, slot := 8, constantValue := 0 }, { name := "slots", type := (.array .long), accessFlags := 2, slot := 9, constantValue := 0 }, { name := "attached", type := .int, accessFlags := 2, slot := 10, constantValue := 0 }, { name := "childStarts", type := (.array .int), accessFlags := 2, slot := 11, constantValue := 0 }, { name := "children", type := (.array .int), accessFlags := 2, slot := 12, constantValue := 0 }]
  methods := #[k2m0, k2m1]
  instanceTypes := #[.int, .int, (.array .int), (.array .int), (.array (.object "com/example/path_acl_check/pathaclcheck/Protection")), .int, (.array .int), (.array .byte), .int, (.array .long), .int, (.array .int), (.array .int)]
  staticTypes := #[.int]
  resolved := Array.replicate 216 none
  statics := none }

def pool3 : Array CpInfo := pool [(2, .class_ 4), (1, u "java/lang/Object"), (3, .class_ 10), (1, u "com/example/path_acl_check/pathaclcheck/Protection"), (0, u "owner"), (0, u "Ljava/lang/String;"), (2, u "group"), (2, u "access"), (0, u "Lcom/example/path_acl_check/pathaclcheck/Acl;"), (2, u "defaults"), (2, u "sticky"), (0, u "Z"), (8, u "hash"), (15, u "I")] 20

/-- com/example/path_acl_check/pathaclcheck/Protection -/
def k3 : Class := { plain "com/example/path_acl_check/pathaclcheck/Protection" (some 0) with
  accessFlags := 32
  interfaces := #[]
  cf := some (fileOf pool3 8 #[] #[] 32 2 #[] #[{ accessFlags := 18, nameIndex := 11, descriptorIndex := 12, attributes := #[] }, { accessFlags := 18, nameIndex := 15, descriptorIndex := 12, attributes := #[] }, { accessFlags := 18, nameIndex := 18, descriptorIndex := 19, attributes := #[] }, { accessFlags := 18, nameIndex := 22, descriptorIndex := 19, attributes := #[] }, { accessFlags := 18, nameIndex := 25, descriptorIndex := 26, attributes := #[] }, { accessFlags := 18, nameIndex := 35, descriptorIndex := 51, attributes := #[] }])
  fields := #[{ name := "owner", type := (.object "java/lang/String"), accessFlags := 18, slot := 0, constantValue := 0 }, { name := "group", type := (.object "java/lang/String"), accessFlags := 18, slot := 1, constantValue := 0 }, { name := "access", type := (.object "com/example/path_acl_check/pathaclcheck/Acl"), accessFlags := 18, slot := 2, constantValue := 0 }, { name := "defaults", type := (.object "com/example/path_acl_check/pathaclcheck/Acl"), accessFlags := 18, slot := 3, constantValue := 0 }, { name := "sticky", type := .boolean, accessFlags := 18, slot := 4, constantValue := 0 }, { name := "hash", type := .int, accessFlags := 18, slot := 5, constantValue := 0 }]
  methods := #[]
  instanceTypes := #[(.object "java/lang/String"), (.object "java/lang/String"), (.object "com/example/path_acl_check/pathaclcheck/Acl"), (.object "com/example/path_acl_check/pathaclcheck/Acl"), .boolean, .int]
  staticTypes := #[]
  resolved := Array.replicate 72 none
  statics := none }

def pool4 : Array CpInfo := pool [(1, .methodref 2 3), (0, .class_ 4), (0, .nameAndType 5 6), (0, u "java/lang/Object"), (0, u "<init>"), (0, u "()V"), (0, .fieldref 8 9), (0, .class_ 10), (0, .nameAndType 11 12), (0, u "com/example/path_acl_check/pathaclcheck/AclRecord"), (0, u "table"), (0, u "Lcom/example/path_acl_check/pathaclcheck/RecordTable;"), (0, .fieldref 8 14), (0, .nameAndType 15 16), (0, u "record"), (0, u "I"), (0, .fieldref 8 18), (0, .nameAndType 19 20), (0, u "childName"), (0, u "Ljava/lang/String;"), (0, .methodref 22 23), (0, .class_ 24), (0, .nameAndType 25 26), (0, u "com/example/path_acl_check/pathaclcheck/RecordTable"), (0, u "protection"), (0, u "(I)Lcom/example/path_acl_check/pathaclcheck/Protection;"), (0, .fieldref 8 28), (0, .nameAndType 25 29), (0, u "Lcom/example/path_acl_check/pathaclcheck/Protection;"), (53, u "(Ljava/lang/Object;)Z"), (153, u "FILE"), (3, u "OWNER"), (2, u "GROUP"), (2, u "FLAGS"), (2, u "DEFAULT"), (0, u "(Lcom/example/path_acl_check/pathaclcheck/RecordTable;I)V"), (13, u "equals")] 32

def k4c0 : Code := { maxStack := 3, maxLocals := 3, code := prog_14_method_1_code, exceptionTable := #[], attributes := #[] }
def k4m0 : Method := { name := "<init>", desc := "(Lcom/example/path_acl_check/pathaclcheck/RecordTable;I)V", sig := { parameters := [(.object "com/example/path_acl_check/pathaclcheck/RecordTable"), .int], returnType := none }, accessFlags := 0, code := some k4c0 }
def k4c1 : Code := { maxStack := 2, maxLocals := 4, code := prog_14_method_12_code, exceptionTable := #[], attributes := #[] }
def k4m1 : Method := { name := "equals", desc := "(Ljava/lang/Object;)Z", sig := { parameters := [(.object "java/lang/Object")], returnType := some .boolean }, accessFlags := 1, code := some k4c1 }
/-- com/example/path_acl_check/pathaclcheck/AclRecord -/
def k4 : Class := { plain "com/example/path_acl_check/pathaclcheck/AclRecord" (some 0) with
  accessFlags := 33
  interfaces := #[]
  cf := some (fileOf pool4 8 #[] #[{ accessFlags := 0, nameIndex := 5, descriptorIndex := 251, attributes := #[] }, { accessFlags := 1, nameIndex := 265, descriptorIndex := 83, attributes := #[] }] 33 2 #[] #[{ accessFlags := 24, nameIndex := 237, descriptorIndex := 20, attributes := #[] }, { accessFlags := 24, nameIndex := 241, descriptorIndex := 20, attributes := #[] }, { accessFlags := 24, nameIndex := 244, descriptorIndex := 20, attributes := #[] }, { accessFlags := 24, nameIndex := 247, descriptorIndex := 20, attributes := #[] }, { accessFlags := 24, nameIndex := 250, descriptorIndex := 20, attributes := #[] }, { accessFlags := 18, nameIndex := 11, descriptorIndex := 12, attributes := #[] }, { accessFlags := 18, nameIndex := 15, descriptorIndex := 16, attributes := #[] }, { accessFlags := 18, nameIndex := 19, descriptorIndex := 20, attributes := #[] }, { accessFlags := 18, nameIndex := 25, descriptorIndex := 29, attributes := #[] }])
  fields := #[{ name := "FILE", type := (.object "java/lang/String"), accessFlags := 24, slot := 0, constantValue := 0 }, { name := "OWNER", type := (.object "java/lang/String"), accessFlags := 24, slot := 1, constantValue := 0 }, { name := "GROUP", type := (.object "java/lang/String"), accessFlags := 24, slot := 2, constantValue := 0 }, { name := "FLAGS", type := (.object "java/lang/String"), accessFlags := 24, slot := 3, constantValue := 0 }, { name := "DEFAULT", type := (.object "java/lang/String"), accessFlags := 24, slot := 4, constantValue := 0 }, { name := "table", type := (.object "com/example/path_acl_check/pathaclcheck/RecordTable"), accessFlags := 18, slot := 0, constantValue := 0 }, { name := "record", type := .int, accessFlags := 18, slot := 1, constantValue := 0 }, { name := "childName", type := (.object "java/lang/String"), accessFlags := 18, slot := 2, constantValue := 0 }, { name := "protection", type := (.object "com/example/path_acl_check/pathaclcheck/Protection"), accessFlags := 18, slot := 3, constantValue := 0 }]
  methods := #[k4m0, k4m1]
  instanceTypes := #[(.object "com/example/path_acl_check/pathaclcheck/RecordTable"), .int, (.object "java/lang/String"), (.object "com/example/path_acl_check/pathaclcheck/Protection")]
  staticTypes := #[(.object "java/lang/String"), (.object "java/lang/String"), (.object "java/lang/String"), (.object "java/lang/String"), (.object "java/lang/String")]
  resolved := Array.replicate 298 none
  statics := none }

def pool5 : Array CpInfo := pool [(1, u "java/lang/Cloneable"), (0, .class_ 1), (0, u "java/lang/Object"), (0, .class_ 3)] 3

/-- java/lang/Cloneable -/
def k5 : Class := { plain "java/lang/Cloneable" (some 0) with
  accessFlags := 1537
  interfaces := #[]
  cf := some (fileOf pool5 2 #[] #[] 1537 4 #[] #[])
  fields := #[]
  methods := #[]
  instanceTypes := #[]
  staticTypes := #[]
  resolved := Array.replicate 8 none
  statics := none }

def pool6 : Array CpInfo := pool [(1, u "java/io/Serializable"), (0, .class_ 1), (0, u "java/lang/Object"), (0, .class_ 3)] 3

/-- java/io/Serializable -/
def k6 : Class := { plain "java/io/Serializable" (some 0) with
  accessFlags := 1537
  interfaces := #[]
  cf := some (fileOf pool6 2 #[] #[] 1537 4 #[] #[])
  fields := #[]
  methods := #[]
  instanceTypes := #[]
  staticTypes := #[]
  resolved := Array.replicate 8 none
  statics := none }

/-- the primitive byte -/
def k7 : Class := { plain "byte" none with kind := .primitive 'B', accessFlags := 0x411 }
/-- [B -/
def k8 : Class := { plain "[B" (some 0) with kind := .array 7 .byte, interfaces := #[5, 6], accessFlags := 1041 }

/-- the primitive int -/
def k9 : Class := { plain "int" none with kind := .primitive 'I', accessFlags := 0x411 }
/-- [I -/
def k10 : Class := { plain "[I" (some 0) with kind := .array 9 .int, interfaces := #[5, 6], accessFlags := 1041 }

/-- the primitive long -/
def k11 : Class := { plain "long" none with kind := .primitive 'J', accessFlags := 0x411 }
/-- [J -/
def k12 : Class := { plain "[J" (some 0) with kind := .array 11 .long, interfaces := #[5, 6], accessFlags := 1041 }

/-- [Lcom/example/path_acl_check/pathaclcheck/Protection; -/
def k13 : Class := { plain "[Lcom/example/path_acl_check/pathaclcheck/Protection;" (some 0) with kind := .array 3 (.object "com/example/path_acl_check/pathaclcheck/Protection"), interfaces := #[5, 6], accessFlags := 1041 }

def heap : Heap := #[]
def classes : Array Class := #[k0, k1, k2, k3, k4, k5, k6, k7, k8, k9, k10, k11, k12, k13]
def interned : List (Array UInt16 × Addr) := []
def slotsUsed : Nat := 0
def theMethod : MethodId := ⟨1, 1⟩
def args0 : Array Value := #[.int 1, .int 3, .int 4]
def aboutOver (below : List Frame) : State where
  vm := { classes := classes, interned := interned.toArray }
  heap := heap
  slotsUsed := slotsUsed
  threads := #[{ frames := .invoking theMethod args0 :: below }]
def below0 : List Frame := [.native { method := ⟨0, 0⟩, args := #[] }]
def about1 : State := aboutOver below0
def p0 : Program := .bare "" "" ""
def e0 : Env := launch0.env 0 0 0
theorem w_frames : about1.frames = Frame.invoking theMethod args0 :: below0 := rfl
set_option maxRecDepth 65536 in
theorem w_args : argsFit about1.vm theMethod args0 = true := by decide +kernel
set_option maxRecDepth 65536 in
theorem w_heap : heapFits about1 = true := by decide +kernel
set_option maxRecDepth 65536 in
theorem w_runnable : about1.curStatus? = some .runnable := by decide +kernel
set_option maxRecDepth 65536 in
theorem w_alone : about1.alone = true := by decide +kernel
set_option maxRecDepth 65536 in
theorem w_named : about1.methodNamed? x = some theMethod := by decide +kernel
set_option maxRecDepth 65536 in
theorem w_hears : about1.hears theMethod below0 = true := by decide +kernel
set_option maxRecDepth 65536 in
theorem w_ripe : about1.ripe theMethod args0 below0 = true := by decide +kernel
theorem w_running : about1.status = .running := rfl
set_option maxRecDepth 65536 in
theorem w_room : about1.hasRoom e0.platform room_1 = true :=
  launch0.hasRoom_least _ room_1 (by decide +kernel) (by decide +kernel) (by decide +kernel) (by decide +kernel) (by decide +kernel) (by decide +kernel)
theorem allAtoms_all (ts : List Jvm.Cond) (a : Array Jvm.Value) (st : Jvm.State) : (allAtoms ts).before a st = ts.all (fun c => c.before a st) := by
  induction ts with
  | nil => rfl
  | cons c t ih =>
    show (Jvm.Cond.and c (allAtoms t)).before a st = _
    rw [Jvm.Cond.before_and, ih, List.all_cons]
def words1 : List Jvm.Cond := Jvm.Cond.code x code maxLocals ret :: tables_1
/-- a 'code' word, met by the world's own term for the bytes: nothing is compared byte by byte -/
theorem code_word {y : MethodName} {bytes : ByteArray} {mx : Nat} {rt : Option FieldType} {a : Array Value} {s : State} {m : MethodId} {meth : Method} {c : Code} (h1 : s.methodNamed? y = some m) (h2 : s.vm.method? m = some meth) (h3 : meth.code = some c) (h4 : c.code = bytes)
    (h5 : (c.maxLocals == mx && c.exceptionTable.isEmpty && decide (c.maxStack ≤ mostOperands) && decide (meth.sig.returnType = rt) && !meth.locks && decide (parseMethodDescriptor y.desc = some meth.sig)) = true) : (Jvm.Cond.code y bytes mx rt).before a s = true := by
  simp only [Bool.and_eq_true, beq_iff_eq, Bool.not_eq_true', decide_eq_true_eq] at h5
  obtain ⟨⟨⟨⟨⟨g1, g2⟩, g3⟩, g4⟩, g5⟩, g6⟩ := h5
  simp [Cond.before, Cond.holds, Cond.value, h1, h2, h3, h4, g1, g2, g3, g4, g5, g6]
def isCode : Jvm.Cond → Bool
  | .code _ _ _ _ => true
  | _ => false
theorem all_split {L : List Jvm.Cond} {P : Jvm.Cond → Bool} (h1 : L.all (fun c => isCode c || P c) = true) (h2 : ∀ c ∈ L.filter isCode, P c = true) : L.all P = true := by
  refine List.all_eq_true.mpr fun c hc => ?_
  have h := List.all_eq_true.mp h1 c hc
  rcases Bool.eq_false_or_eq_true (isCode c) with hi | hi
  · exact h2 c (List.mem_filter.mpr ⟨hc, hi⟩)
  · simpa [hi] using h
set_option maxRecDepth 65536 in
theorem w_c0 : (Jvm.Cond.code x code maxLocals ret).before args0 about1 = true := code_word (m := ⟨1, 1⟩) (meth := k1m1) (c := k1c1) (by decide +kernel) rfl rfl rfl (by decide +kernel)
set_option maxRecDepth 65536 in
theorem w_c1 : (Jvm.Cond.code ({ cls := "com/example/path_acl_check/pathaclcheck/RecordTable", name := "<init>", desc := "()V" } : Jvm.MethodName) prog_26_method_1_code (1 : Nat) (Option.none : Option Jvm.ClassFile.FieldType)).before args0 about1 = true := code_word (m := ⟨2, 0⟩) (meth := k2m0) (c := k2c0) (by decide +kernel) rfl rfl rfl (by decide +kernel)
set_option maxRecDepth 65536 in
theorem w_c2 : (Jvm.Cond.code ({ cls := "java/lang/Object", name := "<init>", desc := "()V" } : Jvm.MethodName) object_method_1_code (1 : Nat) (Option.none : Option Jvm.ClassFile.FieldType)).before args0 about1 = true := code_word (m := ⟨0, 0⟩) (meth := k0m0) (c := k0c0) (by decide +kernel) rfl rfl rfl (by decide +kernel)
set_option maxRecDepth 65536 in
theorem w_c3 : (Jvm.Cond.code ({ cls := "com/example/path_acl_check/pathaclcheck/AclRecord", name := "<init>", desc := "(Lcom/example/path_acl_check/pathaclcheck/RecordTable;I)V" } : Jvm.MethodName) prog_14_method_1_code (3 : Nat) (Option.none : Option Jvm.ClassFile.FieldType)).before args0 about1 = true := code_word (m := ⟨4, 0⟩) (meth := k4m0) (c := k4c0) (by decide +kernel) rfl rfl rfl (by decide +kernel)
set_option maxRecDepth 65536 in
theorem w_c4 : (Jvm.Cond.code ({ cls := "com/example/path_acl_check/pathaclcheck/RecordTable", name := "protection", desc := "(I)Lcom/example/path_acl_check/pathaclcheck/Protection;" } : Jvm.MethodName) prog_26_method_13_code (2 : Nat) (Option.some (Jvm.ClassFile.FieldType.object "com/example/path_acl_check/pathaclcheck/Protection"))).before args0 about1 = true := code_word (m := ⟨2, 1⟩) (meth := k2m1) (c := k2c1) (by decide +kernel) rfl rfl rfl (by decide +kernel)
set_option maxRecDepth 65536 in
theorem w_c5 : (Jvm.Cond.code ({ cls := "com/example/path_acl_check/pathaclcheck/AclRecord", name := "equals", desc := "(Ljava/lang/Object;)Z" } : Jvm.MethodName) prog_14_method_12_code (4 : Nat) (Option.some Jvm.ClassFile.FieldType.boolean)).before args0 about1 = true := code_word (m := ⟨4, 1⟩) (meth := k4m1) (c := k4c1) (by decide +kernel) rfl rfl rfl (by decide +kernel)
def codes1 : List Jvm.Cond := [Jvm.Cond.code x code maxLocals ret, Jvm.Cond.code ({ cls := "com/example/path_acl_check/pathaclcheck/RecordTable", name := "<init>", desc := "()V" } : Jvm.MethodName) prog_26_method_1_code (1 : Nat) (Option.none : Option Jvm.ClassFile.FieldType), Jvm.Cond.code ({ cls := "java/lang/Object", name := "<init>", desc := "()V" } : Jvm.MethodName) object_method_1_code (1 : Nat) (Option.none : Option Jvm.ClassFile.FieldType), Jvm.Cond.code ({ cls := "com/example/path_acl_check/pathaclcheck/AclRecord", name := "<init>", desc := "(Lcom/example/path_acl_check/pathaclcheck/RecordTable;I)V" } : Jvm.MethodName) prog_14_method_1_code (3 : Nat) (Option.none : Option Jvm.ClassFile.FieldType), Jvm.Cond.code ({ cls := "com/example/path_acl_check/pathaclcheck/RecordTable", name := "protection", desc := "(I)Lcom/example/path_acl_check/pathaclcheck/Protection;" } : Jvm.MethodName) prog_26_method_13_code (2 : Nat) (Option.some (Jvm.ClassFile.FieldType.object "com/example/path_acl_check/pathaclcheck/Protection")), Jvm.Cond.code ({ cls := "com/example/path_acl_check/pathaclcheck/AclRecord", name := "equals", desc := "(Ljava/lang/Object;)Z" } : Jvm.MethodName) prog_14_method_12_code (4 : Nat) (Option.some Jvm.ClassFile.FieldType.boolean)]
set_option maxRecDepth 65536 in
theorem codes_eq : words1.filter isCode = codes1 := rfl
theorem w_codes : ∀ c ∈ words1.filter isCode, c.before args0 about1 = true := by
  rw [codes_eq]
  intro c hc
  simp only [codes1, List.mem_cons, List.not_mem_nil, or_false] at hc
  rcases hc with rfl | rfl | rfl | rfl | rfl | rfl
  · exact w_c0
  · exact w_c1
  · exact w_c2
  · exact w_c3
  · exact w_c4
  · exact w_c5
set_option maxRecDepth 65536 in
theorem w_t1 : (words1.take 24).all (fun c => isCode c || c.before args0 about1) = true := by decide +kernel
set_option maxRecDepth 65536 in
theorem w_t2 : ((words1.drop 24).take 24).all (fun c => isCode c || c.before args0 about1) = true := by decide +kernel
set_option maxRecDepth 65536 in
theorem w_t3 : ((words1.drop 24).drop 24).all (fun c => isCode c || c.before args0 about1) = true := by decide +kernel
theorem w_tables : (allAtoms (Jvm.Cond.code x code maxLocals ret :: tables_1)).before args0 about1 = true := by
  rw [allAtoms_all]
  show words1.all (fun c => c.before args0 about1) = true
  refine all_split ?_ w_codes
  rw [← List.take_append_drop 24 words1, List.all_append, w_t1, ← List.take_append_drop 24 (words1.drop 24), List.all_append, w_t2, w_t3]
  rfl
set_option maxRecDepth 65536 in
theorem w_case : (Jvm.Cond.and given_1 narrow_1).before args0 about1 = true := by decide +kernel
theorem w_applies : (headSpec (Jvm.Cond.code x code maxLocals ret :: tables_1) room_1).applies x e0.platform about1 = true :=
  (Spec.applies_iff w_frames).mpr ⟨w_running, w_runnable, w_alone, w_named, w_hears, w_ripe, w_room, w_tables⟩
theorem atStart : AtStart classFile x code maxLocals ret World_1 tables_1 room_1 Calls_1 rest_1 Pre_1 launch0 p0 e0 about1 theMethod args0 below0 :=
  ⟨lists_1, trivial, launch0.admits_env _ _ _, launch0.least_env, fairChoices_fair.cas, fairChoices_fair.clock, w_frames, w_args, w_heap, w_applies, trivial, trivial, w_case⟩
end start1
theorem witness_1 : WitnessClaimed_1 := ⟨start1.p0, start1.e0, start1.about1, start1.theMethod, start1.args0, start1.below0, start1.atStart⟩
end Jvm.Pilot.@@N@@
