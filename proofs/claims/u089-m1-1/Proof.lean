import JvmDerived
import JvmDerived.Pilot.@@N@@Statement
import JvmDerived.Pilot.@@N@@Code
set_option linter.unusedVariables false
set_option linter.unusedSimpArgs false
namespace Jvm.Pilot.@@N@@
open Jvm Jvm.ClassFile Sem Op Lib Jvm.Free Jvm.Stand Jvm.LawKit Jvm.RoadKit Bundle Jvm.Pilot.@@N@@.Jvm.D
theorem own_d2_0 : decode jdk_30_method_1_code 0 = .ok (.aload_n 0, 1) := by decide +kernel
theorem own_d2_1 : decode jdk_30_method_1_code 1 = .ok (.invokespecial 1, 3) := by decide +kernel
theorem own_d2_4 : decode jdk_30_method_1_code 4 = .ok (.return_, 1) := by decide +kernel
theorem own_pn0 : plainName "java/lang/Record" = true := by first | (simp [plainName, overriddenIn]; done) | decide +kernel
theorem own_ef_rm2 (m : MethodId) (a1 : Addr) : entryFrame m #[(.ref a1)] 1 = mkF m 0 #[.val (.ref a1)] [] := by first | (simp [entryFrame, mkF, argsToLocals, Value.category]; done) | rfl
def Q2 (Z : State) (a1 : Addr) (h0 : Heap) (n0 : Nat) (v : Option Value) (h : Heap) (L : List Loc) : Prop := v = none ∧ Fr n0 L ∧ h = h0
set_option maxRecDepth 65536 in
set_option maxHeartbeats 40000000 in
theorem rm2 (l : Launch) (Z : State) (a0 : Array Value) (hw : ∀ d ∈ tables_1, d.before a0 Z = true) (ws : List Jvm.Cond) (a1 : Addr) (h0 : Heap) (n0 : Nat) (Z0 : n0 ≤ h0.size) :
    MetFree l (⟨"java/lang/Record", "<init>", "()V"⟩ : MethodName) (head1 (Jvm.Cond.code (⟨"java/lang/Record", "<init>", "()V"⟩ : MethodName) jdk_30_method_1_code 1 none :: ws) ({ frames := 1, cells := 0, slots := 0, locals := 12 } : Room)) (fun a U => a = #[(.ref a1)] ∧ Z.Warmed39 U.vm ∧ U.heap = h0) (fun _ _ _ _ _ => True) (fun _ U o U' => ∃ v L, o = .returned v ∧ Q2 Z a1 h0 n0 v U'.heap L ∧ FrameEnd U o U' L ({ frames := 1, cells := 0, slots := 0, locals := 12 } : Room).cells ({ frames := 1, cells := 0, slots := 0, locals := 12 } : Room).slots) := by
  refine MetFree.of_bodySF (plainFor_of_name own_pn0) hisR ?_
  intro p e s m args below meth c s₁ Bd hml0 hP hK
  obtain ⟨rfl, hZ, hh⟩ := hP
  have hx := Bd.exec
  have hby := Bd.bytes
  have hml : c.maxLocals = 1 := hml0
  have hown : s.vm.findClass "java/lang/Record" = some m.cls := findClass_of_methodNamed Bd.named
  have hnm := (name_of_methodNamed Bd.named Bd.method).1
  have X0 : Stand p l e ({ frames := 1, cells := 0, slots := 0, locals := 12 } : Room) s m #[(.ref a1)] below meth c s₁ [] 0 0 := Stand.of_body Bd
  have e0 : s₁.heap = h0 := by rw [← hh, Bd.state]; rfl
  have N0 := Fr.nil n0
  have K0 : Keep h0 h0 [] := Keep.refl h0 _
  have pre0 : ∀ t, Steps p.tables e below (s₁.setTop (mkF m 0 #[.val (.ref a1)] [])) t → Steps p.tables e below (s₁.setTop (entryFrame m #[(.ref a1)] 1)) t := fun t k => castTop (own_ef_rm2 m a1) k
  obtain ⟨T1, X1, e1, st1⟩ := initO X0 hx hZ hown (hw _ (List.mem_of_getElem? (i := 11) rfl)) (hw _ (List.mem_of_getElem? (i := 12) rfl)) (hw _ (List.mem_of_getElem? (i := 13) rfl)) e0 (g := (mkF m 1 #[.val (.ref a1)] [(.ref a1)])) rfl (by rw [hml]; rfl) rfl (hb hby own_d2_1) (by decide) (W := 0) (by show 2 * 0 + _ ≤ _; exact Nat.le_of_eq rfl) (by decide)
  obtain ⟨fs, hr, hrun, hended, hW, hsame⟩ := X1.leave (v := none) (fun _ => rfl)
  refine ⟨_, _, pre0 _ ?_, hrun, hended, _, _, rfl, ?_, ⟨_, rfl⟩, hW, hsame.mono (by decide) (by decide)⟩
  · show Steps p.tables e below (s₁.setTop (mkF m 0 #[.val (.ref a1)] [])) _
    refine XS.aloadN X0.here hx rfl (hb hby own_d2_0) rfl rfl ?_
    show Steps p.tables e below (s₁.setTop (mkF m 1 #[.val (.ref a1)] [(.ref a1)])) _
    refine st1 _ ?_
    show Steps p.tables e below (T1.setTop (mkF m 4 #[.val (.ref a1)] [])) _
    exact X1.returnOut hx Bd.returns (hb hby own_d2_4) hr
  · show Q2 Z a1 h0 n0 _ T1.heap _
    rw [e1]
    exact ⟨rfl, N0, rfl⟩
theorem own_d1_0 : decode prog_28_method_1_code 0 = .ok (.aload_n 0, 1) := by decide +kernel
theorem own_d1_1 : decode prog_28_method_1_code 1 = .ok (.invokespecial 1, 3) := by decide +kernel
theorem own_pd0 : parseMethodDescriptor "()V" = some ⟨[], none⟩ := by decide +kernel
theorem own_d1_4 : decode prog_28_method_1_code 4 = .ok (.iload_n 1, 1) := by decide +kernel
theorem own_d1_5 : decode prog_28_method_1_code 5 = .ok (.bipush 11, 2) := by decide +kernel
theorem own_d1_7 : decode prog_28_method_1_code 7 = .ok (.if_icmp .lt 9, 3) := by decide +kernel
theorem own_d1_10 : decode prog_28_method_1_code 10 = .ok (.iload_n 1, 1) := by decide +kernel
theorem own_d1_11 : decode prog_28_method_1_code 11 = .ok (.bipush 18, 2) := by decide +kernel
theorem own_d1_13 : decode prog_28_method_1_code 13 = .ok (.if_icmp .le 18, 3) := by decide +kernel
theorem own_d1_31 : decode prog_28_method_1_code 31 = .ok (.aload_n 0, 1) := by decide +kernel
theorem own_d1_32 : decode prog_28_method_1_code 32 = .ok (.iload_n 1, 1) := by decide +kernel
theorem own_d1_33 : decode prog_28_method_1_code 33 = .ok (.putfield 24, 3) := by decide +kernel
theorem own_d1_36 : decode prog_28_method_1_code 36 = .ok (.return_, 1) := by decide +kernel
theorem own_pn1 : plainName "com/example/alterlint/alterlint/model/PostgresVersion" = true := by first | (simp [plainName, overriddenIn]; done) | decide +kernel
theorem own_ef_rm1 (m : MethodId) (a1 : Addr) (p2 : Int32) : entryFrame m #[(.ref a1), (.int p2)] 2 = mkF m 0 #[.val (.ref a1), .val (.int p2)] [] := by first | (simp [entryFrame, mkF, argsToLocals, Value.category]; done) | rfl
def Q1 (Z : State) (a1 : Addr) (p2 : Int32) (h0 : Heap) (n0 : Nat) (v : Option Value) (h : Heap) (L : List Loc) : Prop := v = none ∧ Fr n0 L ∧ Keep h0 h [a1] ∧ Exa Z h a1 "com/example/alterlint/alterlint/model/PostgresVersion" ∧ Fld Z h a1 "com/example/alterlint/alterlint/model/PostgresVersion" "major" "I" (.int p2)
set_option maxRecDepth 65536 in
set_option maxHeartbeats 40000000 in
theorem rm1 (l : Launch) (Z : State) (a0 : Array Value) (hw : ∀ d ∈ tables_1, d.before a0 Z = true) (ws : List Jvm.Cond) (a1 : Addr) (p2 : Int32) (h0 : Heap) (n0 : Nat) (Z0 : n0 ≤ h0.size) (E_a1 : Exa Z h0 a1 "com/example/alterlint/alterlint/model/PostgresVersion") (F_a1_major : Fld Z h0 a1 "com/example/alterlint/alterlint/model/PostgresVersion" "major" "I" (.int (0 : Int32))) (gg_a1 : n0 ≤ a1) (hlo : ¬ (p2 < (11 : Int32))) (hhi : ¬ ((18 : Int32) < p2)) :
    MetFree l (⟨"com/example/alterlint/alterlint/model/PostgresVersion", "<init>", "(I)V"⟩ : MethodName) (head1 (Jvm.Cond.code (⟨"com/example/alterlint/alterlint/model/PostgresVersion", "<init>", "(I)V"⟩ : MethodName) prog_28_method_1_code 2 none :: ws) ({ frames := 2, cells := 0, slots := 0, locals := 24 } : Room)) (fun a U => a = #[(.ref a1), (.int p2)] ∧ Z.Warmed39 U.vm ∧ U.heap = h0) (fun _ _ _ _ _ => True) (fun _ U o U' => ∃ v L, o = .returned v ∧ Q1 Z a1 p2 h0 n0 v U'.heap L ∧ FrameEnd U o U' L ({ frames := 2, cells := 0, slots := 0, locals := 24 } : Room).cells ({ frames := 2, cells := 0, slots := 0, locals := 24 } : Room).slots) := by
  refine MetFree.of_bodySF (plainFor_of_name own_pn1) hisR ?_
  intro p e s m args below meth c s₁ Bd hml0 hP hK
  obtain ⟨rfl, hZ, hh⟩ := hP
  have hx := Bd.exec
  have hby := Bd.bytes
  have hml : c.maxLocals = 2 := hml0
  have hown : s.vm.findClass "com/example/alterlint/alterlint/model/PostgresVersion" = some m.cls := findClass_of_methodNamed Bd.named
  have hnm := (name_of_methodNamed Bd.named Bd.method).1
  have X0 : Stand p l e ({ frames := 2, cells := 0, slots := 0, locals := 24 } : Room) s m #[(.ref a1), (.int p2)] below meth c s₁ [] 0 0 := Stand.of_body Bd
  have e0 : s₁.heap = h0 := by rw [← hh, Bd.state]; rfl
  have N0 := Fr.nil n0
  have K0 : Keep h0 h0 [a1] := Keep.refl h0 _
  have pre0 : ∀ t, Steps p.tables e below (s₁.setTop (mkF m 0 #[.val (.ref a1), .val (.int p2)] [])) t → Steps p.tables e below (s₁.setTop (entryFrame m #[(.ref a1), (.int p2)] 2)) t := fun t k => castTop (own_ef_rm1 m a1 p2) k
  obtain ⟨_, _, ⟨T2, L2, k2, n2⟩, -, X2, ⟨Lc2, hQ2, l2, y2, z2⟩, st2⟩ := X0.specialBack hx (y := (⟨"java/lang/Record", "<init>", "()V"⟩ : MethodName)) rfl hown (mvT hZ (hw _ (List.mem_of_getElem? (i := 6) rfl))) (mvT hZ (hw _ (List.mem_of_getElem? (i := 7) rfl))) (mvT hZ (hw _ (List.mem_of_getElem? (i := 10) rfl))) (by decide) (backOf (W := 0) (rm2 l Z a0 hw [] a1 h0 n0 (Nat.le_trans Z0 K0.1) ) hZ (hw _ (List.mem_of_getElem? (i := 10) rfl)) (hw _ (List.mem_of_getElem? (i := 9) rfl)) (by decide) (by decide)) (g := (mkF m 1 #[.val (.ref a1), .val (.int p2)] [(.ref a1)])) rfl (by rw [hml]; rfl) (Steps.refl _) (a := a1) (argsL := []) (rest := []) (lenOf own_pd0 rfl) rfl (by show 2 * 0 + _ ≤ _; exact Nat.le_of_eq rfl) (hb hby own_d1_1) (fun _ _ => ⟨rfl, e0, (by decide : 0 + 0 ≤ _), (by decide : 0 + 0 ≤ _)⟩)
  dsimp only [Pt.U, Pt.locs, Pt.cells, Pt.slots] at X2 l2 y2 z2 st2 hQ2
  subst l2 y2 z2
  obtain ⟨rfl, N2q, e2⟩ := hQ2
  have N2 := Fr.app N0 N2q
  have hc7_3 : ¬ (p2 < (11 : Int32)) := hlo
  have hc13_4 : ¬ ((18 : Int32) < p2) := hhi
  obtain ⟨T5, h5, X5, e5, W5, st5⟩ := putF X2 hx hZ hown (host := "") (Or.inl (hw _ (List.mem_of_getElem? (i := 14) rfl))) Via.refl e2 F_a1_major E_a1 (Or.inr ⟨(hw _ (List.mem_of_getElem? (i := 15) rfl)), rfl, hnm⟩) (hw _ (List.mem_of_getElem? (i := 1) rfl)) (ty := .int) (by decide) rfl rfl (g := (mkF m 33 #[.val (.ref a1), .val (.int p2)] [(.int p2), (.ref a1)])) rfl rfl (hb hby own_d1_33)
  have Fw5 := F_a1_major.same W5
  have K5 := K0.wr W5 (Or.inl (List.mem_of_getElem? (i := 0) rfl))
  have N5 := Fr.snoc X5 N2 gg_a1
  have Q6 := (E_a1.wr W5)
  obtain ⟨fs, hr, hrun, hended, hW, hsame⟩ := X5.leave (v := none) (fun _ => rfl)
  refine ⟨_, _, pre0 _ ?_, hrun, hended, _, _, rfl, ?_, ⟨_, rfl⟩, hW, hsame.mono (by decide) (by decide)⟩
  · show Steps p.tables e below (s₁.setTop (mkF m 0 #[.val (.ref a1), .val (.int p2)] [])) _
    refine XS.aloadN X0.here hx rfl (hb hby own_d1_0) rfl rfl ?_
    show Steps p.tables e below (s₁.setTop (mkF m 1 #[.val (.ref a1), .val (.int p2)] [(.ref a1)])) _
    refine st2.trans ?_
    show Steps p.tables e below (T2.setTop (mkF m 4 #[.val (.ref a1), .val (.int p2)] [])) _
    refine XS.iloadN X2.here hx rfl (hb hby own_d1_4) rfl ?_
    show Steps p.tables e below (T2.setTop (mkF m 5 #[.val (.ref a1), .val (.int p2)] [(.int p2)])) _
    refine XS.bipush X2.here hx rfl (hb hby own_d1_5) ?_
    show Steps p.tables e below (T2.setTop (mkF m 7 #[.val (.ref a1), .val (.int p2)] [(.int (11 : Int32)), (.int p2)])) _
    refine XS.icmpNo X2.here hx rfl (hb hby own_d1_7) rfl (flt hc7_3).1 ?_
    show Steps p.tables e below (T2.setTop (mkF m 10 #[.val (.ref a1), .val (.int p2)] [])) _
    refine XS.iloadN X2.here hx rfl (hb hby own_d1_10) rfl ?_
    show Steps p.tables e below (T2.setTop (mkF m 11 #[.val (.ref a1), .val (.int p2)] [(.int p2)])) _
    refine XS.bipush X2.here hx rfl (hb hby own_d1_11) ?_
    show Steps p.tables e below (T2.setTop (mkF m 13 #[.val (.ref a1), .val (.int p2)] [(.int (18 : Int32)), (.int p2)])) _
    refine XS.icmpYes X2.here hx rfl (pc0 := 13) (pc' := 31) rfl (hb hby own_d1_13) rfl (flt hc13_4).2.2.2 (by decide) (by decide) ?_
    show Steps p.tables e below (T2.setTop (mkF m 31 #[.val (.ref a1), .val (.int p2)] [])) _
    refine XS.aloadN X2.here hx rfl (hb hby own_d1_31) rfl rfl ?_
    show Steps p.tables e below (T2.setTop (mkF m 32 #[.val (.ref a1), .val (.int p2)] [(.ref a1)])) _
    refine XS.iloadN X2.here hx rfl (hb hby own_d1_32) rfl ?_
    show Steps p.tables e below (T2.setTop (mkF m 33 #[.val (.ref a1), .val (.int p2)] [(.int p2), (.ref a1)])) _
    refine st5 _ ?_
    show Steps p.tables e below (T5.setTop (mkF m 36 #[.val (.ref a1), .val (.int p2)] [])) _
    exact X5.returnOut hx Bd.returns (hb hby own_d1_36) hr
  · show Q1 Z a1 p2 h0 n0 _ T5.heap _
    rw [e5]
    exact ⟨rfl, N5, K5, Q6, Fw5⟩
theorem own_d4_0 : decode prog_28_method_3_code 0 = .ok (.aload_n 0, 1) := by decide +kernel
theorem own_d4_1 : decode prog_28_method_3_code 1 = .ok (.getfield 24, 3) := by decide +kernel
theorem own_d4_4 : decode prog_28_method_3_code 4 = .ok (.iload_n 1, 1) := by decide +kernel
theorem own_d4_5 : decode prog_28_method_3_code 5 = .ok (.if_icmp .lt 7, 3) := by decide +kernel
theorem own_d4_12 : decode prog_28_method_3_code 12 = .ok (.iconst 0, 1) := by decide +kernel
theorem own_d4_13 : decode prog_28_method_3_code 13 = .ok (.ireturn, 1) := by decide +kernel
theorem own_d4_8 : decode prog_28_method_3_code 8 = .ok (.iconst 1, 1) := by decide +kernel
theorem own_d4_9 : decode prog_28_method_3_code 9 = .ok (.goto 4, 3) := by decide +kernel
def own_f_rm4 (p2 : Int32) (w3 : Int32) : Int32 := if w3 < p2 then (0 : Int32) else (1 : Int32)
theorem own_ef_rm4 (m : MethodId) (a1 : Addr) (p2 : Int32) : entryFrame m #[(.ref a1), (.int p2)] 2 = mkF m 0 #[.val (.ref a1), .val (.int p2)] [] := by first | (simp [entryFrame, mkF, argsToLocals, Value.category]; done) | rfl
def Q4 (Z : State) (a1 : Addr) (p2 : Int32) (w3 : Int32) (h0 : Heap) (n0 : Nat) (v : Option Value) (h : Heap) (L : List Loc) : Prop := v = some (.int (own_f_rm4 p2 w3)) ∧ Fr n0 L ∧ h = h0
set_option maxRecDepth 65536 in
set_option maxHeartbeats 40000000 in
theorem rm4 (l : Launch) (Z : State) (a0 : Array Value) (hw : ∀ d ∈ tables_1, d.before a0 Z = true) (ws : List Jvm.Cond) (a1 : Addr) (p2 : Int32) (w3 : Int32) (h0 : Heap) (n0 : Nat) (Z0 : n0 ≤ h0.size) (F_a1_major : Fld Z h0 a1 "com/example/alterlint/alterlint/model/PostgresVersion" "major" "I" (.int w3)) :
    MetFree l (⟨"com/example/alterlint/alterlint/model/PostgresVersion", "atLeast", "(I)Z"⟩ : MethodName) (head1 (Jvm.Cond.code (⟨"com/example/alterlint/alterlint/model/PostgresVersion", "atLeast", "(I)Z"⟩ : MethodName) prog_28_method_3_code 2 (some .boolean) :: ws) ({ frames := 0, cells := 0, slots := 0, locals := 0 } : Room)) (fun a U => a = #[(.ref a1), (.int p2)] ∧ Z.Warmed39 U.vm ∧ U.heap = h0) (fun _ _ _ _ _ => True) (fun _ U o U' => ∃ v L, o = .returned v ∧ Q4 Z a1 p2 w3 h0 n0 v U'.heap L ∧ FrameEnd U o U' L ({ frames := 0, cells := 0, slots := 0, locals := 0 } : Room).cells ({ frames := 0, cells := 0, slots := 0, locals := 0 } : Room).slots) := by
  refine MetFree.of_bodySF (plainFor_of_name own_pn1) hisR ?_
  intro p e s m args below meth c s₁ Bd hml0 hP hK
  obtain ⟨rfl, hZ, hh⟩ := hP
  have hx := Bd.exec
  have hby := Bd.bytes
  have hml : c.maxLocals = 2 := hml0
  have hown : s.vm.findClass "com/example/alterlint/alterlint/model/PostgresVersion" = some m.cls := findClass_of_methodNamed Bd.named
  have hnm := (name_of_methodNamed Bd.named Bd.method).1
  have X0 : Stand p l e ({ frames := 0, cells := 0, slots := 0, locals := 0 } : Room) s m #[(.ref a1), (.int p2)] below meth c s₁ [] 0 0 := Stand.of_body Bd
  have e0 : s₁.heap = h0 := by rw [← hh, Bd.state]; rfl
  have N0 := Fr.nil n0
  have K0 : Keep h0 h0 [] := Keep.refl h0 _
  have pre0 : ∀ t, Steps p.tables e below (s₁.setTop (mkF m 0 #[.val (.ref a1), .val (.int p2)] [])) t → Steps p.tables e below (s₁.setTop (entryFrame m #[(.ref a1), (.int p2)] 2)) t := fun t k => castTop (own_ef_rm4 m a1 p2) k
  obtain ⟨T9, X9, e9, st9⟩ := getF X0 hx hZ hown (host := "") (Or.inl (hw _ (List.mem_of_getElem? (i := 14) rfl))) Via.refl e0 F_a1_major (g := (mkF m 1 #[.val (.ref a1), .val (.int p2)] [(.ref a1)])) rfl rfl (hb hby own_d4_1)
  have pre10 : ∀ t, Steps p.tables e below (T9.setTop (mkF m 5 #[.val (.ref a1), .val (.int p2)] [(.int p2), (.int w3)])) t → Steps p.tables e below (s₁.setTop (entryFrame m #[(.ref a1), (.int p2)] 2)) t := fun t k => by
    refine pre0 _ ?_
    show Steps p.tables e below (s₁.setTop (mkF m 0 #[.val (.ref a1), .val (.int p2)] [])) _
    refine XS.aloadN X0.here hx rfl (hb hby own_d4_0) rfl rfl ?_
    show Steps p.tables e below (s₁.setTop (mkF m 1 #[.val (.ref a1), .val (.int p2)] [(.ref a1)])) _
    refine st9 _ ?_
    show Steps p.tables e below (T9.setTop (mkF m 4 #[.val (.ref a1), .val (.int p2)] [(.int w3)])) _
    refine XS.iloadN X9.here hx rfl (hb hby own_d4_4) rfl ?_
    exact k
  by_cases hc5 : w3 < p2
  · obtain ⟨fs, hr, hrun, hended, hW, hsame⟩ := X9.leave (v := some (.int (0 : Int32))) (fun h => by rw [Bd.returns] at h; cases h)
    refine ⟨_, _, pre10 _ ?_, hrun, hended, _, _, rfl, ?_, ⟨_, rfl⟩, hW, hsame.mono (by decide) (by decide)⟩
    · show Steps p.tables e below (T9.setTop (mkF m 5 #[.val (.ref a1), .val (.int p2)] [(.int p2), (.int w3)])) _
      refine XS.icmpYes X9.here hx rfl (pc0 := 5) (pc' := 12) rfl (hb hby own_d4_5) rfl (tlt hc5).1 (by decide) (by decide) ?_
      show Steps p.tables e below (T9.setTop (mkF m 12 #[.val (.ref a1), .val (.int p2)] [])) _
      refine XS.iconst X9.here hx rfl (hb hby own_d4_12) ?_
      show Steps p.tables e below (T9.setTop (mkF m 13 #[.val (.ref a1), .val (.int p2)] [(.int (0 : Int32))])) _
      exact retN X9 hx (t := .boolean) Bd.returns (by simp) (hb hby own_d4_13) hr
    · show Q4 Z a1 p2 w3 h0 n0 _ T9.heap _
      rw [e9]
      exact ⟨(congrArg (fun z => some (Value.int z)) (by unfold own_f_rm4; rw [if_pos hc5] : (0 : Int32) = (own_f_rm4 p2 w3))), N0, rfl⟩
  · obtain ⟨fs, hr, hrun, hended, hW, hsame⟩ := X9.leave (v := some (.int (1 : Int32))) (fun h => by rw [Bd.returns] at h; cases h)
    refine ⟨_, _, pre10 _ ?_, hrun, hended, _, _, rfl, ?_, ⟨_, rfl⟩, hW, hsame.mono (by decide) (by decide)⟩
    · show Steps p.tables e below (T9.setTop (mkF m 5 #[.val (.ref a1), .val (.int p2)] [(.int p2), (.int w3)])) _
      refine XS.icmpNo X9.here hx rfl (hb hby own_d4_5) rfl (flt hc5).1 ?_
      show Steps p.tables e below (T9.setTop (mkF m 8 #[.val (.ref a1), .val (.int p2)] [])) _
      refine XS.iconst X9.here hx rfl (hb hby own_d4_8) ?_
      show Steps p.tables e below (T9.setTop (mkF m 9 #[.val (.ref a1), .val (.int p2)] [(.int (1 : Int32))])) _
      refine XS.goto X9.here hx rfl (pc0 := 9) (pc' := 13) rfl (hb hby own_d4_9) (by decide) (by decide) ?_
      show Steps p.tables e below (T9.setTop (mkF m 13 #[.val (.ref a1), .val (.int p2)] [(.int (1 : Int32))])) _
      exact retN X9 hx (t := .boolean) Bd.returns (by simp) (hb hby own_d4_13) hr
    · show Q4 Z a1 p2 w3 h0 n0 _ T9.heap _
      rw [e9]
      exact ⟨(congrArg (fun z => some (Value.int z)) (by unfold own_f_rm4; rw [if_neg hc5] : (1 : Int32) = (own_f_rm4 p2 w3))), N0, rfl⟩
theorem own_v (a : Int32) : ((11 : Int32) + (a &&& (7 : Int32))).toInt = 11 + a.toInt % 8 := by
  have h1 := c_mask a 7 3 (by decide) (by decide)
  have h2 := c_iadd 11 (a &&& 7)
  have h3 := rng32 ((11 : Int32) + (a &&& (7 : Int32)))
  have h4 : (11 : Int32).toInt = 11 := by decide
  omega
theorem own_lo (a : Int32) : ¬ ((11 : Int32) + (a &&& (7 : Int32))) < (11 : Int32) := by
  have := own_v a; rw [Int32.lt_iff_toInt_lt, show (11 : Int32).toInt = 11 from by decide]; omega
theorem own_hi (a : Int32) : ¬ (18 : Int32) < ((11 : Int32) + (a &&& (7 : Int32))) := by
  have := own_v a; rw [Int32.lt_iff_toInt_lt, show (18 : Int32).toInt = 18 from by decide]; omega
theorem own_nx (a : Int32) : ((11 : Int32) + (a &&& (7 : Int32))) < ((11 : Int32) + (a &&& (7 : Int32))) + 1 := by
  have := own_v a; have h2 := c_iadd ((11 : Int32) + (a &&& (7 : Int32))) 1; have h3 := rng32 (((11 : Int32) + (a &&& (7 : Int32))) + 1); have h4 : (1 : Int32).toInt = 1 := by decide
  rw [Int32.lt_iff_toInt_lt]; omega
theorem own_pd1 : parseMethodDescriptor "(I)V" = some ⟨[.int], none⟩ := by decide +kernel
theorem own_pd2 : parseMethodDescriptor "(I)Z" = some ⟨[.int], some .boolean⟩ := by decide +kernel
theorem own_pn2 : plainName "com/example/alterlint/alterlint/model/PostgresVersionAtLeastPinLaw" = true := by first | (simp [plainName, overriddenIn]; done) | decide +kernel
theorem own_ef_rm0 (m : MethodId) (p0 : Int32) (p1 : Int32) : entryFrame m #[(.int p0), (.int p1)] maxLocals = mkF m 0 #[.val (.int p0), .val (.int p1), .unset, .unset, .unset, .unset, .unset, .unset] [] := by first | (simp [entryFrame, mkF, argsToLocals, Value.category, maxLocals]; done) | rfl
def Q0 (Z : State) (p0 : Int32) (p1 : Int32) (h0 : Heap) (n0 : Nat) (v : Option Value) (h : Heap) (L : List Loc) : Prop := v = some (.int (1 : Int32)) ∧ Fr n0 L
set_option maxRecDepth 65536 in
set_option maxHeartbeats 40000000 in
theorem rm0 (l : Launch) (Z : State) (a0 : Array Value) (hw : ∀ d ∈ tables_1, d.before a0 Z = true) (ws : List Jvm.Cond) (p0 : Int32) (p1 : Int32) (h0 : Heap) (n0 : Nat) (Z0 : n0 ≤ h0.size) :
    MetFree l x (head1 (Jvm.Cond.code x code maxLocals ret :: ws) room_1) (fun a U => a = #[(.int p0), (.int p1)] ∧ Z.Warmed39 U.vm ∧ U.heap = h0) (fun _ _ _ _ _ => True) (fun _ U o U' => ∃ v L, o = .returned v ∧ Q0 Z p0 p1 h0 n0 v U'.heap L ∧ FrameEnd U o U' L room_1.cells room_1.slots) := by
  refine MetFree.of_bodySF (plainFor_of_name own_pn2) hisR ?_
  intro p e s m args below meth c s₁ Bd hml0 hP hK
  obtain ⟨rfl, hZ, hh⟩ := hP
  have hx := Bd.exec
  have hby := Bd.bytes
  have hml : c.maxLocals = 8 := hml0
  have hown : s.vm.findClass "com/example/alterlint/alterlint/model/PostgresVersionAtLeastPinLaw" = some m.cls := findClass_of_methodNamed Bd.named
  have hnm := (name_of_methodNamed Bd.named Bd.method).1
  have X0 : Stand p l e room_1 s m #[(.int p0), (.int p1)] below meth c s₁ [] 0 0 := Stand.of_body Bd
  have e0 : s₁.heap = h0 := by rw [← hh, Bd.state]; rfl
  have N0 := Fr.nil n0
  have K0 : Keep h0 h0 [] := Keep.refl h0 _
  have pre0 : ∀ t, Steps p.tables e below (s₁.setTop (mkF m 0 #[.val (.int p0), .val (.int p1), .unset, .unset, .unset, .unset, .unset, .unset] [])) t → Steps p.tables e below (s₁.setTop (entryFrame m #[(.int p0), (.int p1)] maxLocals)) t := fun t k => castTop (own_ef_rm0 m p0 p1) k
  obtain ⟨T11, h11, X11, e11, E11, A11, D11, -, st11⟩ := newO X0 hx hZ hown (hw _ (List.mem_of_getElem? (i := 0) rfl)) (hw _ (List.mem_of_getElem? (i := 1) rfl)) (hw _ (List.mem_of_getElem? (i := 2) rfl)) e0 (g := (mkF m 8 #[.val (.int p0), .val (.int p1), .val (.int ((11 : Int32) + (p0 &&& (7 : Int32)))), .unset, .unset, .unset, .unset, .unset] [])) rfl (hb hby at_8) (by decide) (by decide)
  obtain ⟨b11, g11⟩ : ∃ z, z = h0.size := ⟨_, rfl⟩
  rw [← g11] at A11 D11 st11
  have gg_b11 : n0 ≤ b11 := Nat.le_trans (Nat.le_trans Z0 K0.1) (Nat.le_of_eq g11.symm)
  have sz_b11 : h0.size ≤ b11 := Nat.le_trans K0.1 (Nat.le_of_eq g11.symm)
  have K11 := K0.ext E11
  have F11_major : Fld Z h11 b11 "com/example/alterlint/alterlint/model/PostgresVersion" "major" "I" (.int (0 : Int32)) := D11 (Or.inr (hw _ (List.mem_of_getElem? (i := 15) rfl))) (ty := .int) (by decide)
  obtain ⟨_, _, ⟨T12, L12, k12, n12⟩, -, X12, ⟨Lc12, hQ12, l12, y12, z12⟩, st12⟩ := X11.specialBack hx (y := (⟨"com/example/alterlint/alterlint/model/PostgresVersion", "<init>", "(I)V"⟩ : MethodName)) rfl hown (mvT hZ (hw _ (List.mem_of_getElem? (i := 3) rfl))) (mvT hZ (hw _ (List.mem_of_getElem? (i := 4) rfl))) (mvT hZ (hw _ (List.mem_of_getElem? (i := 5) rfl))) (by decide) (backOf (W := 1) (rm1 l Z a0 hw [] b11 ((11 : Int32) + (p0 &&& (7 : Int32))) h11 n0 (Nat.le_trans Z0 K11.1) A11 F11_major gg_b11 (own_lo p0) (own_hi p0)) hZ (hw _ (List.mem_of_getElem? (i := 5) rfl)) (hw _ (List.mem_of_getElem? (i := 2) rfl)) (by decide) (by decide)) (g := (mkF m 13 #[.val (.int p0), .val (.int p1), .val (.int ((11 : Int32) + (p0 &&& (7 : Int32)))), .unset, .unset, .unset, .unset, .unset] [(.int ((11 : Int32) + (p0 &&& (7 : Int32)))), (.ref b11), (.ref b11)])) rfl (by rw [hml]; rfl) (Steps.refl _) (a := b11) (argsL := [(.int ((11 : Int32) + (p0 &&& (7 : Int32))))]) (rest := [(.ref b11)]) (lenOf own_pd1 rfl) rfl (by show 2 * 0 + _ ≤ _; exact Nat.le_of_eq rfl) (hb hby at_13) (fun _ _ => ⟨rfl, e11, (by decide : 1 + 0 ≤ _), (by decide : 1 + 0 ≤ _)⟩)
  dsimp only [Pt.U, Pt.locs, Pt.cells, Pt.slots] at X12 l12 y12 z12 st12 hQ12
  subst l12 y12 z12
  obtain ⟨rfl, N12q, i12_2, i12_3, i12_4⟩ := hQ12
  have N12 := Fr.app N0 N12q
  have K12 := K11.trans i12_2 (allS (Or.inr sz_b11) all0)
  obtain ⟨cq13, kq13, q13a, q13b, q13c⟩ := isOf hZ rfl i12_3
  obtain ⟨_, _, ⟨T13, L13, k13, n13⟩, -, X13, ⟨Lc13, hQ13, l13, y13, z13⟩, st13⟩ := X12.virtualBack hx (y := (⟨"com/example/alterlint/alterlint/model/PostgresVersion", "atLeast", "(I)Z"⟩ : MethodName)) (z := (⟨"com/example/alterlint/alterlint/model/PostgresVersion", "atLeast", "(I)Z"⟩ : MethodName)) hown (mvT hZ (hw _ (List.mem_of_getElem? (i := 16) rfl))) (mvT hZ (hw _ (List.mem_of_getElem? (i := 17) rfl))) (notFace_of_selects (args := #[]) (mvT hZ (hw _ (List.mem_of_getElem? (i := 19) rfl)))) (mvT hZ (hw _ (List.mem_of_getElem? (i := 19) rfl))) (mvT hZ (hw _ (List.mem_of_getElem? (i := 18) rfl))) (by decide) (backOf (W := 0) (rm4 l Z a0 hw [] b11 p1 ((11 : Int32) + (p0 &&& (7 : Int32))) T12.heap n0 (Nat.le_trans Z0 K12.1) i12_4) hZ (hw _ (List.mem_of_getElem? (i := 20) rfl)) (hw _ (List.mem_of_getElem? (i := 2) rfl)) (by decide) (by decide)) q13a q13c (g := (mkF m 19 #[.val (.int p0), .val (.int p1), .val (.int ((11 : Int32) + (p0 &&& (7 : Int32)))), .val (.ref b11), .unset, .unset, .unset, .unset] [(.int p1), (.ref b11)])) rfl (by rw [hml]; rfl) (Steps.refl _) (argsL := [(.int p1)]) (rest := []) (lenOf own_pd2 rfl) rfl (by show 2 * 0 + _ ≤ _; exact Nat.le_of_eq rfl) (hb hby at_19) (fun _ _ => ⟨rfl, rfl, (by decide : 1 + 0 ≤ _), (by decide : 1 + 0 ≤ _)⟩)
  dsimp only [Pt.U, Pt.locs, Pt.cells, Pt.slots] at X13 l13 y13 z13 st13 hQ13
  subst l13 y13 z13
  obtain ⟨rfl, N13q, e13⟩ := hQ13
  have N13 := Fr.app N12 N13q
  have pre14 : ∀ t, Steps p.tables e below (T13.setTop (mkF m 26 #[.val (.int p0), .val (.int p1), .val (.int ((11 : Int32) + (p0 &&& (7 : Int32)))), .val (.ref b11), .val (.int (own_f_rm4 p1 ((11 : Int32) + (p0 &&& (7 : Int32))))), .unset, .unset, .unset] [(.int ((11 : Int32) + (p0 &&& (7 : Int32)))), (.int p1)])) t → Steps p.tables e below (s₁.setTop (entryFrame m #[(.int p0), (.int p1)] maxLocals)) t := fun t k => by
    refine pre0 _ ?_
    show Steps p.tables e below (s₁.setTop (mkF m 0 #[.val (.int p0), .val (.int p1), .unset, .unset, .unset, .unset, .unset, .unset] [])) _
    refine XS.bipush X0.here hx rfl (hb hby at_0) ?_
    show Steps p.tables e below (s₁.setTop (mkF m 2 #[.val (.int p0), .val (.int p1), .unset, .unset, .unset, .unset, .unset, .unset] [(.int (11 : Int32))])) _
    refine XS.iloadN X0.here hx rfl (hb hby at_2) rfl ?_
    show Steps p.tables e below (s₁.setTop (mkF m 3 #[.val (.int p0), .val (.int p1), .unset, .unset, .unset, .unset, .unset, .unset] [(.int p0), (.int (11 : Int32))])) _
    refine XS.bipush X0.here hx rfl (hb hby at_3) ?_
    show Steps p.tables e below (s₁.setTop (mkF m 5 #[.val (.int p0), .val (.int p1), .unset, .unset, .unset, .unset, .unset, .unset] [(.int (7 : Int32)), (.int p0), (.int (11 : Int32))])) _
    refine XS.iand X0.here hx rfl (hb hby at_5) rfl ?_
    show Steps p.tables e below (s₁.setTop (mkF m 6 #[.val (.int p0), .val (.int p1), .unset, .unset, .unset, .unset, .unset, .unset] [(.int (p0 &&& (7 : Int32))), (.int (11 : Int32))])) _
    refine XS.iadd X0.here hx rfl (hb hby at_6) rfl ?_
    show Steps p.tables e below (s₁.setTop (mkF m 7 #[.val (.int p0), .val (.int p1), .unset, .unset, .unset, .unset, .unset, .unset] [(.int ((11 : Int32) + (p0 &&& (7 : Int32))))])) _
    refine XS.istoreN X0.here hx rfl (hb hby at_7) rfl (l' := #[.val (.int p0), .val (.int p1), .val (.int ((11 : Int32) + (p0 &&& (7 : Int32)))), .unset, .unset, .unset, .unset, .unset]) rfl ?_
    show Steps p.tables e below (s₁.setTop (mkF m 8 #[.val (.int p0), .val (.int p1), .val (.int ((11 : Int32) + (p0 &&& (7 : Int32)))), .unset, .unset, .unset, .unset, .unset] [])) _
    refine st11 _ ?_
    show Steps p.tables e below (T11.setTop (mkF m 11 #[.val (.int p0), .val (.int p1), .val (.int ((11 : Int32) + (p0 &&& (7 : Int32)))), .unset, .unset, .unset, .unset, .unset] [(.ref b11)])) _
    refine XS.dup X11.here hx rfl (hb hby at_11) rfl rfl ?_
    show Steps p.tables e below (T11.setTop (mkF m 12 #[.val (.int p0), .val (.int p1), .val (.int ((11 : Int32) + (p0 &&& (7 : Int32)))), .unset, .unset, .unset, .unset, .unset] [(.ref b11), (.ref b11)])) _
    refine XS.iloadN X11.here hx rfl (hb hby at_12) rfl ?_
    show Steps p.tables e below (T11.setTop (mkF m 13 #[.val (.int p0), .val (.int p1), .val (.int ((11 : Int32) + (p0 &&& (7 : Int32)))), .unset, .unset, .unset, .unset, .unset] [(.int ((11 : Int32) + (p0 &&& (7 : Int32)))), (.ref b11), (.ref b11)])) _
    refine st12.trans ?_
    show Steps p.tables e below (T12.setTop (mkF m 16 #[.val (.int p0), .val (.int p1), .val (.int ((11 : Int32) + (p0 &&& (7 : Int32)))), .unset, .unset, .unset, .unset, .unset] [(.ref b11)])) _
    refine XS.astoreN X12.here hx rfl (hb hby at_16) rfl rfl (l' := #[.val (.int p0), .val (.int p1), .val (.int ((11 : Int32) + (p0 &&& (7 : Int32)))), .val (.ref b11), .unset, .unset, .unset, .unset]) rfl ?_
    show Steps p.tables e below (T12.setTop (mkF m 17 #[.val (.int p0), .val (.int p1), .val (.int ((11 : Int32) + (p0 &&& (7 : Int32)))), .val (.ref b11), .unset, .unset, .unset, .unset] [])) _
    refine XS.aloadN X12.here hx rfl (hb hby at_17) rfl rfl ?_
    show Steps p.tables e below (T12.setTop (mkF m 18 #[.val (.int p0), .val (.int p1), .val (.int ((11 : Int32) + (p0 &&& (7 : Int32)))), .val (.ref b11), .unset, .unset, .unset, .unset] [(.ref b11)])) _
    refine XS.iloadN X12.here hx rfl (hb hby at_18) rfl ?_
    show Steps p.tables e below (T12.setTop (mkF m 19 #[.val (.int p0), .val (.int p1), .val (.int ((11 : Int32) + (p0 &&& (7 : Int32)))), .val (.ref b11), .unset, .unset, .unset, .unset] [(.int p1), (.ref b11)])) _
    refine st13.trans ?_
    show Steps p.tables e below (T13.setTop (mkF m 22 #[.val (.int p0), .val (.int p1), .val (.int ((11 : Int32) + (p0 &&& (7 : Int32)))), .val (.ref b11), .unset, .unset, .unset, .unset] [(.int (own_f_rm4 p1 ((11 : Int32) + (p0 &&& (7 : Int32)))))])) _
    refine XS.istore X13.here hx rfl (hb hby at_22) rfl (l' := #[.val (.int p0), .val (.int p1), .val (.int ((11 : Int32) + (p0 &&& (7 : Int32)))), .val (.ref b11), .val (.int (own_f_rm4 p1 ((11 : Int32) + (p0 &&& (7 : Int32))))), .unset, .unset, .unset]) rfl ?_
    show Steps p.tables e below (T13.setTop (mkF m 24 #[.val (.int p0), .val (.int p1), .val (.int ((11 : Int32) + (p0 &&& (7 : Int32)))), .val (.ref b11), .val (.int (own_f_rm4 p1 ((11 : Int32) + (p0 &&& (7 : Int32))))), .unset, .unset, .unset] [])) _
    refine XS.iloadN X13.here hx rfl (hb hby at_24) rfl ?_
    show Steps p.tables e below (T13.setTop (mkF m 25 #[.val (.int p0), .val (.int p1), .val (.int ((11 : Int32) + (p0 &&& (7 : Int32)))), .val (.ref b11), .val (.int (own_f_rm4 p1 ((11 : Int32) + (p0 &&& (7 : Int32))))), .unset, .unset, .unset] [(.int p1)])) _
    refine XS.iloadN X13.here hx rfl (hb hby at_25) rfl ?_
    exact k
  by_cases hc26 : ((11 : Int32) + (p0 &&& (7 : Int32))) < p1
  · obtain ⟨cq15, kq15, q15a, q15b, q15c⟩ := isOf hZ e13 i12_3
    obtain ⟨_, _, ⟨T15, L15, k15, n15⟩, -, X15, ⟨Lc15, hQ15, l15, y15, z15⟩, st15⟩ := X13.virtualBack hx (y := (⟨"com/example/alterlint/alterlint/model/PostgresVersion", "atLeast", "(I)Z"⟩ : MethodName)) (z := (⟨"com/example/alterlint/alterlint/model/PostgresVersion", "atLeast", "(I)Z"⟩ : MethodName)) hown (mvT hZ (hw _ (List.mem_of_getElem? (i := 16) rfl))) (mvT hZ (hw _ (List.mem_of_getElem? (i := 17) rfl))) (notFace_of_selects (args := #[]) (mvT hZ (hw _ (List.mem_of_getElem? (i := 19) rfl)))) (mvT hZ (hw _ (List.mem_of_getElem? (i := 19) rfl))) (mvT hZ (hw _ (List.mem_of_getElem? (i := 18) rfl))) (by decide) (backOf (W := 0) (rm4 l Z a0 hw [] b11 ((11 : Int32) + (p0 &&& (7 : Int32))) ((11 : Int32) + (p0 &&& (7 : Int32))) T12.heap n0 (Nat.le_trans Z0 K12.1) i12_4) hZ (hw _ (List.mem_of_getElem? (i := 20) rfl)) (hw _ (List.mem_of_getElem? (i := 2) rfl)) (by decide) (by decide)) q15a q15c (g := (mkF m 38 #[.val (.int p0), .val (.int p1), .val (.int ((11 : Int32) + (p0 &&& (7 : Int32)))), .val (.ref b11), .val (.int (own_f_rm4 p1 ((11 : Int32) + (p0 &&& (7 : Int32))))), .val (.int (0 : Int32)), .unset, .unset] [(.int ((11 : Int32) + (p0 &&& (7 : Int32)))), (.ref b11)])) rfl (by rw [hml]; rfl) (Steps.refl _) (argsL := [(.int ((11 : Int32) + (p0 &&& (7 : Int32))))]) (rest := []) (lenOf own_pd2 rfl) rfl (by show 2 * 0 + _ ≤ _; exact Nat.le_of_eq rfl) (hb hby at_38) (fun _ _ => ⟨rfl, e13, (by decide : 1 + 0 ≤ _), (by decide : 1 + 0 ≤ _)⟩)
    dsimp only [Pt.U, Pt.locs, Pt.cells, Pt.slots] at X15 l15 y15 z15 st15 hQ15
    subst l15 y15 z15
    obtain ⟨rfl, N15q, e15⟩ := hQ15
    have N15 := Fr.app N13 N15q
    obtain ⟨cq16, kq16, q16a, q16b, q16c⟩ := isOf hZ e15 i12_3
    obtain ⟨_, _, ⟨T16, L16, k16, n16⟩, -, X16, ⟨Lc16, hQ16, l16, y16, z16⟩, st16⟩ := X15.virtualBack hx (y := (⟨"com/example/alterlint/alterlint/model/PostgresVersion", "atLeast", "(I)Z"⟩ : MethodName)) (z := (⟨"com/example/alterlint/alterlint/model/PostgresVersion", "atLeast", "(I)Z"⟩ : MethodName)) hown (mvT hZ (hw _ (List.mem_of_getElem? (i := 16) rfl))) (mvT hZ (hw _ (List.mem_of_getElem? (i := 17) rfl))) (notFace_of_selects (args := #[]) (mvT hZ (hw _ (List.mem_of_getElem? (i := 19) rfl)))) (mvT hZ (hw _ (List.mem_of_getElem? (i := 19) rfl))) (mvT hZ (hw _ (List.mem_of_getElem? (i := 18) rfl))) (by decide) (backOf (W := 0) (rm4 l Z a0 hw [] b11 (((11 : Int32) + (p0 &&& (7 : Int32))) + (1 : Int32)) ((11 : Int32) + (p0 &&& (7 : Int32))) T12.heap n0 (Nat.le_trans Z0 K12.1) i12_4) hZ (hw _ (List.mem_of_getElem? (i := 20) rfl)) (hw _ (List.mem_of_getElem? (i := 2) rfl)) (by decide) (by decide)) q16a q16c (g := (mkF m 47 #[.val (.int p0), .val (.int p1), .val (.int ((11 : Int32) + (p0 &&& (7 : Int32)))), .val (.ref b11), .val (.int (own_f_rm4 p1 ((11 : Int32) + (p0 &&& (7 : Int32))))), .val (.int (0 : Int32)), .val (.int (own_f_rm4 ((11 : Int32) + (p0 &&& (7 : Int32))) ((11 : Int32) + (p0 &&& (7 : Int32))))), .unset] [(.int (((11 : Int32) + (p0 &&& (7 : Int32))) + (1 : Int32))), (.ref b11)])) rfl (by rw [hml]; rfl) (Steps.refl _) (argsL := [(.int (((11 : Int32) + (p0 &&& (7 : Int32))) + (1 : Int32)))]) (rest := []) (lenOf own_pd2 rfl) rfl (by show 2 * 0 + _ ≤ _; exact Nat.le_of_eq rfl) (hb hby at_47) (fun _ _ => ⟨rfl, e15, (by decide : 1 + 0 ≤ _), (by decide : 1 + 0 ≤ _)⟩)
    dsimp only [Pt.U, Pt.locs, Pt.cells, Pt.slots] at X16 l16 y16 z16 st16 hQ16
    subst l16 y16 z16
    obtain ⟨rfl, N16q, e16⟩ := hQ16
    have N16 := Fr.app N15 N16q
    have hc56_17 : (own_f_rm4 p1 ((11 : Int32) + (p0 &&& (7 : Int32)))) = (0 : Int32) := by unfold own_f_rm4; simp only [hc26, if_true, if_false]
    have hc61_18 : ¬ ((own_f_rm4 ((11 : Int32) + (p0 &&& (7 : Int32))) ((11 : Int32) + (p0 &&& (7 : Int32)))) = (0 : Int32)) := by unfold own_f_rm4; rw [if_neg (Int32.lt_irrefl)]; decide
    have hc66_19 : (own_f_rm4 (((11 : Int32) + (p0 &&& (7 : Int32))) + (1 : Int32)) ((11 : Int32) + (p0 &&& (7 : Int32)))) = (0 : Int32) := by unfold own_f_rm4; rw [if_pos (own_nx p0)]
    obtain ⟨fs, hr, hrun, hended, hW, hsame⟩ := X16.leave (v := some (.int (1 : Int32))) (fun h => by rw [Bd.returns] at h; cases h)
    refine ⟨_, _, pre14 _ ?_, hrun, hended, _, _, rfl, ?_, ⟨_, rfl⟩, hW, hsame.mono (by decide) (by decide)⟩
    · show Steps p.tables e below (T13.setTop (mkF m 26 #[.val (.int p0), .val (.int p1), .val (.int ((11 : Int32) + (p0 &&& (7 : Int32)))), .val (.ref b11), .val (.int (own_f_rm4 p1 ((11 : Int32) + (p0 &&& (7 : Int32))))), .unset, .unset, .unset] [(.int ((11 : Int32) + (p0 &&& (7 : Int32)))), (.int p1)])) _
      refine XS.icmpYes X13.here hx rfl (pc0 := 26) (pc' := 33) rfl (hb hby at_26) rfl (tlt hc26).2.2.1 (by decide) (by decide) ?_
      show Steps p.tables e below (T13.setTop (mkF m 33 #[.val (.int p0), .val (.int p1), .val (.int ((11 : Int32) + (p0 &&& (7 : Int32)))), .val (.ref b11), .val (.int (own_f_rm4 p1 ((11 : Int32) + (p0 &&& (7 : Int32))))), .unset, .unset, .unset] [])) _
      refine XS.iconst X13.here hx rfl (hb hby at_33) ?_
      show Steps p.tables e below (T13.setTop (mkF m 34 #[.val (.int p0), .val (.int p1), .val (.int ((11 : Int32) + (p0 &&& (7 : Int32)))), .val (.ref b11), .val (.int (own_f_rm4 p1 ((11 : Int32) + (p0 &&& (7 : Int32))))), .unset, .unset, .unset] [(.int (0 : Int32))])) _
      refine XS.istore X13.here hx rfl (hb hby at_34) rfl (l' := #[.val (.int p0), .val (.int p1), .val (.int ((11 : Int32) + (p0 &&& (7 : Int32)))), .val (.ref b11), .val (.int (own_f_rm4 p1 ((11 : Int32) + (p0 &&& (7 : Int32))))), .val (.int (0 : Int32)), .unset, .unset]) rfl ?_
      show Steps p.tables e below (T13.setTop (mkF m 36 #[.val (.int p0), .val (.int p1), .val (.int ((11 : Int32) + (p0 &&& (7 : Int32)))), .val (.ref b11), .val (.int (own_f_rm4 p1 ((11 : Int32) + (p0 &&& (7 : Int32))))), .val (.int (0 : Int32)), .unset, .unset] [])) _
      refine XS.aloadN X13.here hx rfl (hb hby at_36) rfl rfl ?_
      show Steps p.tables e below (T13.setTop (mkF m 37 #[.val (.int p0), .val (.int p1), .val (.int ((11 : Int32) + (p0 &&& (7 : Int32)))), .val (.ref b11), .val (.int (own_f_rm4 p1 ((11 : Int32) + (p0 &&& (7 : Int32))))), .val (.int (0 : Int32)), .unset, .unset] [(.ref b11)])) _
      refine XS.iloadN X13.here hx rfl (hb hby at_37) rfl ?_
      show Steps p.tables e below (T13.setTop (mkF m 38 #[.val (.int p0), .val (.int p1), .val (.int ((11 : Int32) + (p0 &&& (7 : Int32)))), .val (.ref b11), .val (.int (own_f_rm4 p1 ((11 : Int32) + (p0 &&& (7 : Int32))))), .val (.int (0 : Int32)), .unset, .unset] [(.int ((11 : Int32) + (p0 &&& (7 : Int32)))), (.ref b11)])) _
      refine st15.trans ?_
      show Steps p.tables e below (T15.setTop (mkF m 41 #[.val (.int p0), .val (.int p1), .val (.int ((11 : Int32) + (p0 &&& (7 : Int32)))), .val (.ref b11), .val (.int (own_f_rm4 p1 ((11 : Int32) + (p0 &&& (7 : Int32))))), .val (.int (0 : Int32)), .unset, .unset] [(.int (own_f_rm4 ((11 : Int32) + (p0 &&& (7 : Int32))) ((11 : Int32) + (p0 &&& (7 : Int32)))))])) _
      refine XS.istore X15.here hx rfl (hb hby at_41) rfl (l' := #[.val (.int p0), .val (.int p1), .val (.int ((11 : Int32) + (p0 &&& (7 : Int32)))), .val (.ref b11), .val (.int (own_f_rm4 p1 ((11 : Int32) + (p0 &&& (7 : Int32))))), .val (.int (0 : Int32)), .val (.int (own_f_rm4 ((11 : Int32) + (p0 &&& (7 : Int32))) ((11 : Int32) + (p0 &&& (7 : Int32))))), .unset]) rfl ?_
      show Steps p.tables e below (T15.setTop (mkF m 43 #[.val (.int p0), .val (.int p1), .val (.int ((11 : Int32) + (p0 &&& (7 : Int32)))), .val (.ref b11), .val (.int (own_f_rm4 p1 ((11 : Int32) + (p0 &&& (7 : Int32))))), .val (.int (0 : Int32)), .val (.int (own_f_rm4 ((11 : Int32) + (p0 &&& (7 : Int32))) ((11 : Int32) + (p0 &&& (7 : Int32))))), .unset] [])) _
      refine XS.aloadN X15.here hx rfl (hb hby at_43) rfl rfl ?_
      show Steps p.tables e below (T15.setTop (mkF m 44 #[.val (.int p0), .val (.int p1), .val (.int ((11 : Int32) + (p0 &&& (7 : Int32)))), .val (.ref b11), .val (.int (own_f_rm4 p1 ((11 : Int32) + (p0 &&& (7 : Int32))))), .val (.int (0 : Int32)), .val (.int (own_f_rm4 ((11 : Int32) + (p0 &&& (7 : Int32))) ((11 : Int32) + (p0 &&& (7 : Int32))))), .unset] [(.ref b11)])) _
      refine XS.iloadN X15.here hx rfl (hb hby at_44) rfl ?_
      show Steps p.tables e below (T15.setTop (mkF m 45 #[.val (.int p0), .val (.int p1), .val (.int ((11 : Int32) + (p0 &&& (7 : Int32)))), .val (.ref b11), .val (.int (own_f_rm4 p1 ((11 : Int32) + (p0 &&& (7 : Int32))))), .val (.int (0 : Int32)), .val (.int (own_f_rm4 ((11 : Int32) + (p0 &&& (7 : Int32))) ((11 : Int32) + (p0 &&& (7 : Int32))))), .unset] [(.int ((11 : Int32) + (p0 &&& (7 : Int32)))), (.ref b11)])) _
      refine XS.iconst X15.here hx rfl (hb hby at_45) ?_
      show Steps p.tables e below (T15.setTop (mkF m 46 #[.val (.int p0), .val (.int p1), .val (.int ((11 : Int32) + (p0 &&& (7 : Int32)))), .val (.ref b11), .val (.int (own_f_rm4 p1 ((11 : Int32) + (p0 &&& (7 : Int32))))), .val (.int (0 : Int32)), .val (.int (own_f_rm4 ((11 : Int32) + (p0 &&& (7 : Int32))) ((11 : Int32) + (p0 &&& (7 : Int32))))), .unset] [(.int (1 : Int32)), (.int ((11 : Int32) + (p0 &&& (7 : Int32)))), (.ref b11)])) _
      refine XS.iadd X15.here hx rfl (hb hby at_46) rfl ?_
      show Steps p.tables e below (T15.setTop (mkF m 47 #[.val (.int p0), .val (.int p1), .val (.int ((11 : Int32) + (p0 &&& (7 : Int32)))), .val (.ref b11), .val (.int (own_f_rm4 p1 ((11 : Int32) + (p0 &&& (7 : Int32))))), .val (.int (0 : Int32)), .val (.int (own_f_rm4 ((11 : Int32) + (p0 &&& (7 : Int32))) ((11 : Int32) + (p0 &&& (7 : Int32))))), .unset] [(.int (((11 : Int32) + (p0 &&& (7 : Int32))) + (1 : Int32))), (.ref b11)])) _
      refine st16.trans ?_
      show Steps p.tables e below (T16.setTop (mkF m 50 #[.val (.int p0), .val (.int p1), .val (.int ((11 : Int32) + (p0 &&& (7 : Int32)))), .val (.ref b11), .val (.int (own_f_rm4 p1 ((11 : Int32) + (p0 &&& (7 : Int32))))), .val (.int (0 : Int32)), .val (.int (own_f_rm4 ((11 : Int32) + (p0 &&& (7 : Int32))) ((11 : Int32) + (p0 &&& (7 : Int32))))), .unset] [(.int (own_f_rm4 (((11 : Int32) + (p0 &&& (7 : Int32))) + (1 : Int32)) ((11 : Int32) + (p0 &&& (7 : Int32)))))])) _
      refine XS.istore X16.here hx rfl (hb hby at_50) rfl (l' := #[.val (.int p0), .val (.int p1), .val (.int ((11 : Int32) + (p0 &&& (7 : Int32)))), .val (.ref b11), .val (.int (own_f_rm4 p1 ((11 : Int32) + (p0 &&& (7 : Int32))))), .val (.int (0 : Int32)), .val (.int (own_f_rm4 ((11 : Int32) + (p0 &&& (7 : Int32))) ((11 : Int32) + (p0 &&& (7 : Int32))))), .val (.int (own_f_rm4 (((11 : Int32) + (p0 &&& (7 : Int32))) + (1 : Int32)) ((11 : Int32) + (p0 &&& (7 : Int32)))))]) rfl ?_
      show Steps p.tables e below (T16.setTop (mkF m 52 #[.val (.int p0), .val (.int p1), .val (.int ((11 : Int32) + (p0 &&& (7 : Int32)))), .val (.ref b11), .val (.int (own_f_rm4 p1 ((11 : Int32) + (p0 &&& (7 : Int32))))), .val (.int (0 : Int32)), .val (.int (own_f_rm4 ((11 : Int32) + (p0 &&& (7 : Int32))) ((11 : Int32) + (p0 &&& (7 : Int32))))), .val (.int (own_f_rm4 (((11 : Int32) + (p0 &&& (7 : Int32))) + (1 : Int32)) ((11 : Int32) + (p0 &&& (7 : Int32)))))] [])) _
      refine XS.iload X16.here hx rfl (hb hby at_52) rfl ?_
      show Steps p.tables e below (T16.setTop (mkF m 54 #[.val (.int p0), .val (.int p1), .val (.int ((11 : Int32) + (p0 &&& (7 : Int32)))), .val (.ref b11), .val (.int (own_f_rm4 p1 ((11 : Int32) + (p0 &&& (7 : Int32))))), .val (.int (0 : Int32)), .val (.int (own_f_rm4 ((11 : Int32) + (p0 &&& (7 : Int32))) ((11 : Int32) + (p0 &&& (7 : Int32))))), .val (.int (own_f_rm4 (((11 : Int32) + (p0 &&& (7 : Int32))) + (1 : Int32)) ((11 : Int32) + (p0 &&& (7 : Int32)))))] [(.int (own_f_rm4 p1 ((11 : Int32) + (p0 &&& (7 : Int32)))))])) _
      refine XS.iload X16.here hx rfl (hb hby at_54) rfl ?_
      show Steps p.tables e below (T16.setTop (mkF m 56 #[.val (.int p0), .val (.int p1), .val (.int ((11 : Int32) + (p0 &&& (7 : Int32)))), .val (.ref b11), .val (.int (own_f_rm4 p1 ((11 : Int32) + (p0 &&& (7 : Int32))))), .val (.int (0 : Int32)), .val (.int (own_f_rm4 ((11 : Int32) + (p0 &&& (7 : Int32))) ((11 : Int32) + (p0 &&& (7 : Int32))))), .val (.int (own_f_rm4 (((11 : Int32) + (p0 &&& (7 : Int32))) + (1 : Int32)) ((11 : Int32) + (p0 &&& (7 : Int32)))))] [(.int (0 : Int32)), (.int (own_f_rm4 p1 ((11 : Int32) + (p0 &&& (7 : Int32)))))])) _
      refine XS.icmpNo X16.here hx rfl (hb hby at_56) rfl (teq hc56_17).2 ?_
      show Steps p.tables e below (T16.setTop (mkF m 59 #[.val (.int p0), .val (.int p1), .val (.int ((11 : Int32) + (p0 &&& (7 : Int32)))), .val (.ref b11), .val (.int (own_f_rm4 p1 ((11 : Int32) + (p0 &&& (7 : Int32))))), .val (.int (0 : Int32)), .val (.int (own_f_rm4 ((11 : Int32) + (p0 &&& (7 : Int32))) ((11 : Int32) + (p0 &&& (7 : Int32))))), .val (.int (own_f_rm4 (((11 : Int32) + (p0 &&& (7 : Int32))) + (1 : Int32)) ((11 : Int32) + (p0 &&& (7 : Int32)))))] [])) _
      refine XS.iload X16.here hx rfl (hb hby at_59) rfl ?_
      show Steps p.tables e below (T16.setTop (mkF m 61 #[.val (.int p0), .val (.int p1), .val (.int ((11 : Int32) + (p0 &&& (7 : Int32)))), .val (.ref b11), .val (.int (own_f_rm4 p1 ((11 : Int32) + (p0 &&& (7 : Int32))))), .val (.int (0 : Int32)), .val (.int (own_f_rm4 ((11 : Int32) + (p0 &&& (7 : Int32))) ((11 : Int32) + (p0 &&& (7 : Int32))))), .val (.int (own_f_rm4 (((11 : Int32) + (p0 &&& (7 : Int32))) + (1 : Int32)) ((11 : Int32) + (p0 &&& (7 : Int32)))))] [(.int (own_f_rm4 ((11 : Int32) + (p0 &&& (7 : Int32))) ((11 : Int32) + (p0 &&& (7 : Int32)))))])) _
      refine XS.ifNo X16.here hx rfl (hb hby at_61) rfl ((if0 _ _).trans (feq hc61_18).1) ?_
      show Steps p.tables e below (T16.setTop (mkF m 64 #[.val (.int p0), .val (.int p1), .val (.int ((11 : Int32) + (p0 &&& (7 : Int32)))), .val (.ref b11), .val (.int (own_f_rm4 p1 ((11 : Int32) + (p0 &&& (7 : Int32))))), .val (.int (0 : Int32)), .val (.int (own_f_rm4 ((11 : Int32) + (p0 &&& (7 : Int32))) ((11 : Int32) + (p0 &&& (7 : Int32))))), .val (.int (own_f_rm4 (((11 : Int32) + (p0 &&& (7 : Int32))) + (1 : Int32)) ((11 : Int32) + (p0 &&& (7 : Int32)))))] [])) _
      refine XS.iload X16.here hx rfl (hb hby at_64) rfl ?_
      show Steps p.tables e below (T16.setTop (mkF m 66 #[.val (.int p0), .val (.int p1), .val (.int ((11 : Int32) + (p0 &&& (7 : Int32)))), .val (.ref b11), .val (.int (own_f_rm4 p1 ((11 : Int32) + (p0 &&& (7 : Int32))))), .val (.int (0 : Int32)), .val (.int (own_f_rm4 ((11 : Int32) + (p0 &&& (7 : Int32))) ((11 : Int32) + (p0 &&& (7 : Int32))))), .val (.int (own_f_rm4 (((11 : Int32) + (p0 &&& (7 : Int32))) + (1 : Int32)) ((11 : Int32) + (p0 &&& (7 : Int32)))))] [(.int (own_f_rm4 (((11 : Int32) + (p0 &&& (7 : Int32))) + (1 : Int32)) ((11 : Int32) + (p0 &&& (7 : Int32)))))])) _
      refine XS.ifNo X16.here hx rfl (hb hby at_66) rfl ((if0 _ _).trans (teq hc66_19).2) ?_
      show Steps p.tables e below (T16.setTop (mkF m 69 #[.val (.int p0), .val (.int p1), .val (.int ((11 : Int32) + (p0 &&& (7 : Int32)))), .val (.ref b11), .val (.int (own_f_rm4 p1 ((11 : Int32) + (p0 &&& (7 : Int32))))), .val (.int (0 : Int32)), .val (.int (own_f_rm4 ((11 : Int32) + (p0 &&& (7 : Int32))) ((11 : Int32) + (p0 &&& (7 : Int32))))), .val (.int (own_f_rm4 (((11 : Int32) + (p0 &&& (7 : Int32))) + (1 : Int32)) ((11 : Int32) + (p0 &&& (7 : Int32)))))] [])) _
      refine XS.iconst X16.here hx rfl (hb hby at_69) ?_
      show Steps p.tables e below (T16.setTop (mkF m 70 #[.val (.int p0), .val (.int p1), .val (.int ((11 : Int32) + (p0 &&& (7 : Int32)))), .val (.ref b11), .val (.int (own_f_rm4 p1 ((11 : Int32) + (p0 &&& (7 : Int32))))), .val (.int (0 : Int32)), .val (.int (own_f_rm4 ((11 : Int32) + (p0 &&& (7 : Int32))) ((11 : Int32) + (p0 &&& (7 : Int32))))), .val (.int (own_f_rm4 (((11 : Int32) + (p0 &&& (7 : Int32))) + (1 : Int32)) ((11 : Int32) + (p0 &&& (7 : Int32)))))] [(.int (1 : Int32))])) _
      refine XS.goto X16.here hx rfl (pc0 := 70) (pc' := 74) rfl (hb hby at_70) (by decide) (by decide) ?_
      show Steps p.tables e below (T16.setTop (mkF m 74 #[.val (.int p0), .val (.int p1), .val (.int ((11 : Int32) + (p0 &&& (7 : Int32)))), .val (.ref b11), .val (.int (own_f_rm4 p1 ((11 : Int32) + (p0 &&& (7 : Int32))))), .val (.int (0 : Int32)), .val (.int (own_f_rm4 ((11 : Int32) + (p0 &&& (7 : Int32))) ((11 : Int32) + (p0 &&& (7 : Int32))))), .val (.int (own_f_rm4 (((11 : Int32) + (p0 &&& (7 : Int32))) + (1 : Int32)) ((11 : Int32) + (p0 &&& (7 : Int32)))))] [(.int (1 : Int32))])) _
      exact retN X16 hx (t := .boolean) Bd.returns (by simp) (hb hby at_74) hr
    · show Q0 Z p0 p1 h0 n0 _ T16.heap _
      rw [e16]
      exact ⟨rfl, N16⟩
  · obtain ⟨cq20, kq20, q20a, q20b, q20c⟩ := isOf hZ e13 i12_3
    obtain ⟨_, _, ⟨T20, L20, k20, n20⟩, -, X20, ⟨Lc20, hQ20, l20, y20, z20⟩, st20⟩ := X13.virtualBack hx (y := (⟨"com/example/alterlint/alterlint/model/PostgresVersion", "atLeast", "(I)Z"⟩ : MethodName)) (z := (⟨"com/example/alterlint/alterlint/model/PostgresVersion", "atLeast", "(I)Z"⟩ : MethodName)) hown (mvT hZ (hw _ (List.mem_of_getElem? (i := 16) rfl))) (mvT hZ (hw _ (List.mem_of_getElem? (i := 17) rfl))) (notFace_of_selects (args := #[]) (mvT hZ (hw _ (List.mem_of_getElem? (i := 19) rfl)))) (mvT hZ (hw _ (List.mem_of_getElem? (i := 19) rfl))) (mvT hZ (hw _ (List.mem_of_getElem? (i := 18) rfl))) (by decide) (backOf (W := 0) (rm4 l Z a0 hw [] b11 ((11 : Int32) + (p0 &&& (7 : Int32))) ((11 : Int32) + (p0 &&& (7 : Int32))) T12.heap n0 (Nat.le_trans Z0 K12.1) i12_4) hZ (hw _ (List.mem_of_getElem? (i := 20) rfl)) (hw _ (List.mem_of_getElem? (i := 2) rfl)) (by decide) (by decide)) q20a q20c (g := (mkF m 38 #[.val (.int p0), .val (.int p1), .val (.int ((11 : Int32) + (p0 &&& (7 : Int32)))), .val (.ref b11), .val (.int (own_f_rm4 p1 ((11 : Int32) + (p0 &&& (7 : Int32))))), .val (.int (1 : Int32)), .unset, .unset] [(.int ((11 : Int32) + (p0 &&& (7 : Int32)))), (.ref b11)])) rfl (by rw [hml]; rfl) (Steps.refl _) (argsL := [(.int ((11 : Int32) + (p0 &&& (7 : Int32))))]) (rest := []) (lenOf own_pd2 rfl) rfl (by show 2 * 0 + _ ≤ _; exact Nat.le_of_eq rfl) (hb hby at_38) (fun _ _ => ⟨rfl, e13, (by decide : 1 + 0 ≤ _), (by decide : 1 + 0 ≤ _)⟩)
    dsimp only [Pt.U, Pt.locs, Pt.cells, Pt.slots] at X20 l20 y20 z20 st20 hQ20
    subst l20 y20 z20
    obtain ⟨rfl, N20q, e20⟩ := hQ20
    have N20 := Fr.app N13 N20q
    obtain ⟨cq21, kq21, q21a, q21b, q21c⟩ := isOf hZ e20 i12_3
    obtain ⟨_, _, ⟨T21, L21, k21, n21⟩, -, X21, ⟨Lc21, hQ21, l21, y21, z21⟩, st21⟩ := X20.virtualBack hx (y := (⟨"com/example/alterlint/alterlint/model/PostgresVersion", "atLeast", "(I)Z"⟩ : MethodName)) (z := (⟨"com/example/alterlint/alterlint/model/PostgresVersion", "atLeast", "(I)Z"⟩ : MethodName)) hown (mvT hZ (hw _ (List.mem_of_getElem? (i := 16) rfl))) (mvT hZ (hw _ (List.mem_of_getElem? (i := 17) rfl))) (notFace_of_selects (args := #[]) (mvT hZ (hw _ (List.mem_of_getElem? (i := 19) rfl)))) (mvT hZ (hw _ (List.mem_of_getElem? (i := 19) rfl))) (mvT hZ (hw _ (List.mem_of_getElem? (i := 18) rfl))) (by decide) (backOf (W := 0) (rm4 l Z a0 hw [] b11 (((11 : Int32) + (p0 &&& (7 : Int32))) + (1 : Int32)) ((11 : Int32) + (p0 &&& (7 : Int32))) T12.heap n0 (Nat.le_trans Z0 K12.1) i12_4) hZ (hw _ (List.mem_of_getElem? (i := 20) rfl)) (hw _ (List.mem_of_getElem? (i := 2) rfl)) (by decide) (by decide)) q21a q21c (g := (mkF m 47 #[.val (.int p0), .val (.int p1), .val (.int ((11 : Int32) + (p0 &&& (7 : Int32)))), .val (.ref b11), .val (.int (own_f_rm4 p1 ((11 : Int32) + (p0 &&& (7 : Int32))))), .val (.int (1 : Int32)), .val (.int (own_f_rm4 ((11 : Int32) + (p0 &&& (7 : Int32))) ((11 : Int32) + (p0 &&& (7 : Int32))))), .unset] [(.int (((11 : Int32) + (p0 &&& (7 : Int32))) + (1 : Int32))), (.ref b11)])) rfl (by rw [hml]; rfl) (Steps.refl _) (argsL := [(.int (((11 : Int32) + (p0 &&& (7 : Int32))) + (1 : Int32)))]) (rest := []) (lenOf own_pd2 rfl) rfl (by show 2 * 0 + _ ≤ _; exact Nat.le_of_eq rfl) (hb hby at_47) (fun _ _ => ⟨rfl, e20, (by decide : 1 + 0 ≤ _), (by decide : 1 + 0 ≤ _)⟩)
    dsimp only [Pt.U, Pt.locs, Pt.cells, Pt.slots] at X21 l21 y21 z21 st21 hQ21
    subst l21 y21 z21
    obtain ⟨rfl, N21q, e21⟩ := hQ21
    have N21 := Fr.app N20 N21q
    have hc56_22 : (own_f_rm4 p1 ((11 : Int32) + (p0 &&& (7 : Int32)))) = (1 : Int32) := by unfold own_f_rm4; simp only [hc26, if_true, if_false]
    have hc61_23 : ¬ ((own_f_rm4 ((11 : Int32) + (p0 &&& (7 : Int32))) ((11 : Int32) + (p0 &&& (7 : Int32)))) = (0 : Int32)) := by unfold own_f_rm4; rw [if_neg (Int32.lt_irrefl)]; decide
    have hc66_24 : (own_f_rm4 (((11 : Int32) + (p0 &&& (7 : Int32))) + (1 : Int32)) ((11 : Int32) + (p0 &&& (7 : Int32)))) = (0 : Int32) := by unfold own_f_rm4; rw [if_pos (own_nx p0)]
    obtain ⟨fs, hr, hrun, hended, hW, hsame⟩ := X21.leave (v := some (.int (1 : Int32))) (fun h => by rw [Bd.returns] at h; cases h)
    refine ⟨_, _, pre14 _ ?_, hrun, hended, _, _, rfl, ?_, ⟨_, rfl⟩, hW, hsame.mono (by decide) (by decide)⟩
    · show Steps p.tables e below (T13.setTop (mkF m 26 #[.val (.int p0), .val (.int p1), .val (.int ((11 : Int32) + (p0 &&& (7 : Int32)))), .val (.ref b11), .val (.int (own_f_rm4 p1 ((11 : Int32) + (p0 &&& (7 : Int32))))), .unset, .unset, .unset] [(.int ((11 : Int32) + (p0 &&& (7 : Int32)))), (.int p1)])) _
      refine XS.icmpNo X13.here hx rfl (hb hby at_26) rfl (flt hc26).2.2.1 ?_
      show Steps p.tables e below (T13.setTop (mkF m 29 #[.val (.int p0), .val (.int p1), .val (.int ((11 : Int32) + (p0 &&& (7 : Int32)))), .val (.ref b11), .val (.int (own_f_rm4 p1 ((11 : Int32) + (p0 &&& (7 : Int32))))), .unset, .unset, .unset] [])) _
      refine XS.iconst X13.here hx rfl (hb hby at_29) ?_
      show Steps p.tables e below (T13.setTop (mkF m 30 #[.val (.int p0), .val (.int p1), .val (.int ((11 : Int32) + (p0 &&& (7 : Int32)))), .val (.ref b11), .val (.int (own_f_rm4 p1 ((11 : Int32) + (p0 &&& (7 : Int32))))), .unset, .unset, .unset] [(.int (1 : Int32))])) _
      refine XS.goto X13.here hx rfl (pc0 := 30) (pc' := 34) rfl (hb hby at_30) (by decide) (by decide) ?_
      show Steps p.tables e below (T13.setTop (mkF m 34 #[.val (.int p0), .val (.int p1), .val (.int ((11 : Int32) + (p0 &&& (7 : Int32)))), .val (.ref b11), .val (.int (own_f_rm4 p1 ((11 : Int32) + (p0 &&& (7 : Int32))))), .unset, .unset, .unset] [(.int (1 : Int32))])) _
      refine XS.istore X13.here hx rfl (hb hby at_34) rfl (l' := #[.val (.int p0), .val (.int p1), .val (.int ((11 : Int32) + (p0 &&& (7 : Int32)))), .val (.ref b11), .val (.int (own_f_rm4 p1 ((11 : Int32) + (p0 &&& (7 : Int32))))), .val (.int (1 : Int32)), .unset, .unset]) rfl ?_
      show Steps p.tables e below (T13.setTop (mkF m 36 #[.val (.int p0), .val (.int p1), .val (.int ((11 : Int32) + (p0 &&& (7 : Int32)))), .val (.ref b11), .val (.int (own_f_rm4 p1 ((11 : Int32) + (p0 &&& (7 : Int32))))), .val (.int (1 : Int32)), .unset, .unset] [])) _
      refine XS.aloadN X13.here hx rfl (hb hby at_36) rfl rfl ?_
      show Steps p.tables e below (T13.setTop (mkF m 37 #[.val (.int p0), .val (.int p1), .val (.int ((11 : Int32) + (p0 &&& (7 : Int32)))), .val (.ref b11), .val (.int (own_f_rm4 p1 ((11 : Int32) + (p0 &&& (7 : Int32))))), .val (.int (1 : Int32)), .unset, .unset] [(.ref b11)])) _
      refine XS.iloadN X13.here hx rfl (hb hby at_37) rfl ?_
      show Steps p.tables e below (T13.setTop (mkF m 38 #[.val (.int p0), .val (.int p1), .val (.int ((11 : Int32) + (p0 &&& (7 : Int32)))), .val (.ref b11), .val (.int (own_f_rm4 p1 ((11 : Int32) + (p0 &&& (7 : Int32))))), .val (.int (1 : Int32)), .unset, .unset] [(.int ((11 : Int32) + (p0 &&& (7 : Int32)))), (.ref b11)])) _
      refine st20.trans ?_
      show Steps p.tables e below (T20.setTop (mkF m 41 #[.val (.int p0), .val (.int p1), .val (.int ((11 : Int32) + (p0 &&& (7 : Int32)))), .val (.ref b11), .val (.int (own_f_rm4 p1 ((11 : Int32) + (p0 &&& (7 : Int32))))), .val (.int (1 : Int32)), .unset, .unset] [(.int (own_f_rm4 ((11 : Int32) + (p0 &&& (7 : Int32))) ((11 : Int32) + (p0 &&& (7 : Int32)))))])) _
      refine XS.istore X20.here hx rfl (hb hby at_41) rfl (l' := #[.val (.int p0), .val (.int p1), .val (.int ((11 : Int32) + (p0 &&& (7 : Int32)))), .val (.ref b11), .val (.int (own_f_rm4 p1 ((11 : Int32) + (p0 &&& (7 : Int32))))), .val (.int (1 : Int32)), .val (.int (own_f_rm4 ((11 : Int32) + (p0 &&& (7 : Int32))) ((11 : Int32) + (p0 &&& (7 : Int32))))), .unset]) rfl ?_
      show Steps p.tables e below (T20.setTop (mkF m 43 #[.val (.int p0), .val (.int p1), .val (.int ((11 : Int32) + (p0 &&& (7 : Int32)))), .val (.ref b11), .val (.int (own_f_rm4 p1 ((11 : Int32) + (p0 &&& (7 : Int32))))), .val (.int (1 : Int32)), .val (.int (own_f_rm4 ((11 : Int32) + (p0 &&& (7 : Int32))) ((11 : Int32) + (p0 &&& (7 : Int32))))), .unset] [])) _
      refine XS.aloadN X20.here hx rfl (hb hby at_43) rfl rfl ?_
      show Steps p.tables e below (T20.setTop (mkF m 44 #[.val (.int p0), .val (.int p1), .val (.int ((11 : Int32) + (p0 &&& (7 : Int32)))), .val (.ref b11), .val (.int (own_f_rm4 p1 ((11 : Int32) + (p0 &&& (7 : Int32))))), .val (.int (1 : Int32)), .val (.int (own_f_rm4 ((11 : Int32) + (p0 &&& (7 : Int32))) ((11 : Int32) + (p0 &&& (7 : Int32))))), .unset] [(.ref b11)])) _
      refine XS.iloadN X20.here hx rfl (hb hby at_44) rfl ?_
      show Steps p.tables e below (T20.setTop (mkF m 45 #[.val (.int p0), .val (.int p1), .val (.int ((11 : Int32) + (p0 &&& (7 : Int32)))), .val (.ref b11), .val (.int (own_f_rm4 p1 ((11 : Int32) + (p0 &&& (7 : Int32))))), .val (.int (1 : Int32)), .val (.int (own_f_rm4 ((11 : Int32) + (p0 &&& (7 : Int32))) ((11 : Int32) + (p0 &&& (7 : Int32))))), .unset] [(.int ((11 : Int32) + (p0 &&& (7 : Int32)))), (.ref b11)])) _
      refine XS.iconst X20.here hx rfl (hb hby at_45) ?_
      show Steps p.tables e below (T20.setTop (mkF m 46 #[.val (.int p0), .val (.int p1), .val (.int ((11 : Int32) + (p0 &&& (7 : Int32)))), .val (.ref b11), .val (.int (own_f_rm4 p1 ((11 : Int32) + (p0 &&& (7 : Int32))))), .val (.int (1 : Int32)), .val (.int (own_f_rm4 ((11 : Int32) + (p0 &&& (7 : Int32))) ((11 : Int32) + (p0 &&& (7 : Int32))))), .unset] [(.int (1 : Int32)), (.int ((11 : Int32) + (p0 &&& (7 : Int32)))), (.ref b11)])) _
      refine XS.iadd X20.here hx rfl (hb hby at_46) rfl ?_
      show Steps p.tables e below (T20.setTop (mkF m 47 #[.val (.int p0), .val (.int p1), .val (.int ((11 : Int32) + (p0 &&& (7 : Int32)))), .val (.ref b11), .val (.int (own_f_rm4 p1 ((11 : Int32) + (p0 &&& (7 : Int32))))), .val (.int (1 : Int32)), .val (.int (own_f_rm4 ((11 : Int32) + (p0 &&& (7 : Int32))) ((11 : Int32) + (p0 &&& (7 : Int32))))), .unset] [(.int (((11 : Int32) + (p0 &&& (7 : Int32))) + (1 : Int32))), (.ref b11)])) _
      refine st21.trans ?_
      show Steps p.tables e below (T21.setTop (mkF m 50 #[.val (.int p0), .val (.int p1), .val (.int ((11 : Int32) + (p0 &&& (7 : Int32)))), .val (.ref b11), .val (.int (own_f_rm4 p1 ((11 : Int32) + (p0 &&& (7 : Int32))))), .val (.int (1 : Int32)), .val (.int (own_f_rm4 ((11 : Int32) + (p0 &&& (7 : Int32))) ((11 : Int32) + (p0 &&& (7 : Int32))))), .unset] [(.int (own_f_rm4 (((11 : Int32) + (p0 &&& (7 : Int32))) + (1 : Int32)) ((11 : Int32) + (p0 &&& (7 : Int32)))))])) _
      refine XS.istore X21.here hx rfl (hb hby at_50) rfl (l' := #[.val (.int p0), .val (.int p1), .val (.int ((11 : Int32) + (p0 &&& (7 : Int32)))), .val (.ref b11), .val (.int (own_f_rm4 p1 ((11 : Int32) + (p0 &&& (7 : Int32))))), .val (.int (1 : Int32)), .val (.int (own_f_rm4 ((11 : Int32) + (p0 &&& (7 : Int32))) ((11 : Int32) + (p0 &&& (7 : Int32))))), .val (.int (own_f_rm4 (((11 : Int32) + (p0 &&& (7 : Int32))) + (1 : Int32)) ((11 : Int32) + (p0 &&& (7 : Int32)))))]) rfl ?_
      show Steps p.tables e below (T21.setTop (mkF m 52 #[.val (.int p0), .val (.int p1), .val (.int ((11 : Int32) + (p0 &&& (7 : Int32)))), .val (.ref b11), .val (.int (own_f_rm4 p1 ((11 : Int32) + (p0 &&& (7 : Int32))))), .val (.int (1 : Int32)), .val (.int (own_f_rm4 ((11 : Int32) + (p0 &&& (7 : Int32))) ((11 : Int32) + (p0 &&& (7 : Int32))))), .val (.int (own_f_rm4 (((11 : Int32) + (p0 &&& (7 : Int32))) + (1 : Int32)) ((11 : Int32) + (p0 &&& (7 : Int32)))))] [])) _
      refine XS.iload X21.here hx rfl (hb hby at_52) rfl ?_
      show Steps p.tables e below (T21.setTop (mkF m 54 #[.val (.int p0), .val (.int p1), .val (.int ((11 : Int32) + (p0 &&& (7 : Int32)))), .val (.ref b11), .val (.int (own_f_rm4 p1 ((11 : Int32) + (p0 &&& (7 : Int32))))), .val (.int (1 : Int32)), .val (.int (own_f_rm4 ((11 : Int32) + (p0 &&& (7 : Int32))) ((11 : Int32) + (p0 &&& (7 : Int32))))), .val (.int (own_f_rm4 (((11 : Int32) + (p0 &&& (7 : Int32))) + (1 : Int32)) ((11 : Int32) + (p0 &&& (7 : Int32)))))] [(.int (own_f_rm4 p1 ((11 : Int32) + (p0 &&& (7 : Int32)))))])) _
      refine XS.iload X21.here hx rfl (hb hby at_54) rfl ?_
      show Steps p.tables e below (T21.setTop (mkF m 56 #[.val (.int p0), .val (.int p1), .val (.int ((11 : Int32) + (p0 &&& (7 : Int32)))), .val (.ref b11), .val (.int (own_f_rm4 p1 ((11 : Int32) + (p0 &&& (7 : Int32))))), .val (.int (1 : Int32)), .val (.int (own_f_rm4 ((11 : Int32) + (p0 &&& (7 : Int32))) ((11 : Int32) + (p0 &&& (7 : Int32))))), .val (.int (own_f_rm4 (((11 : Int32) + (p0 &&& (7 : Int32))) + (1 : Int32)) ((11 : Int32) + (p0 &&& (7 : Int32)))))] [(.int (1 : Int32)), (.int (own_f_rm4 p1 ((11 : Int32) + (p0 &&& (7 : Int32)))))])) _
      refine XS.icmpNo X21.here hx rfl (hb hby at_56) rfl (teq hc56_22).2 ?_
      show Steps p.tables e below (T21.setTop (mkF m 59 #[.val (.int p0), .val (.int p1), .val (.int ((11 : Int32) + (p0 &&& (7 : Int32)))), .val (.ref b11), .val (.int (own_f_rm4 p1 ((11 : Int32) + (p0 &&& (7 : Int32))))), .val (.int (1 : Int32)), .val (.int (own_f_rm4 ((11 : Int32) + (p0 &&& (7 : Int32))) ((11 : Int32) + (p0 &&& (7 : Int32))))), .val (.int (own_f_rm4 (((11 : Int32) + (p0 &&& (7 : Int32))) + (1 : Int32)) ((11 : Int32) + (p0 &&& (7 : Int32)))))] [])) _
      refine XS.iload X21.here hx rfl (hb hby at_59) rfl ?_
      show Steps p.tables e below (T21.setTop (mkF m 61 #[.val (.int p0), .val (.int p1), .val (.int ((11 : Int32) + (p0 &&& (7 : Int32)))), .val (.ref b11), .val (.int (own_f_rm4 p1 ((11 : Int32) + (p0 &&& (7 : Int32))))), .val (.int (1 : Int32)), .val (.int (own_f_rm4 ((11 : Int32) + (p0 &&& (7 : Int32))) ((11 : Int32) + (p0 &&& (7 : Int32))))), .val (.int (own_f_rm4 (((11 : Int32) + (p0 &&& (7 : Int32))) + (1 : Int32)) ((11 : Int32) + (p0 &&& (7 : Int32)))))] [(.int (own_f_rm4 ((11 : Int32) + (p0 &&& (7 : Int32))) ((11 : Int32) + (p0 &&& (7 : Int32)))))])) _
      refine XS.ifNo X21.here hx rfl (hb hby at_61) rfl ((if0 _ _).trans (feq hc61_23).1) ?_
      show Steps p.tables e below (T21.setTop (mkF m 64 #[.val (.int p0), .val (.int p1), .val (.int ((11 : Int32) + (p0 &&& (7 : Int32)))), .val (.ref b11), .val (.int (own_f_rm4 p1 ((11 : Int32) + (p0 &&& (7 : Int32))))), .val (.int (1 : Int32)), .val (.int (own_f_rm4 ((11 : Int32) + (p0 &&& (7 : Int32))) ((11 : Int32) + (p0 &&& (7 : Int32))))), .val (.int (own_f_rm4 (((11 : Int32) + (p0 &&& (7 : Int32))) + (1 : Int32)) ((11 : Int32) + (p0 &&& (7 : Int32)))))] [])) _
      refine XS.iload X21.here hx rfl (hb hby at_64) rfl ?_
      show Steps p.tables e below (T21.setTop (mkF m 66 #[.val (.int p0), .val (.int p1), .val (.int ((11 : Int32) + (p0 &&& (7 : Int32)))), .val (.ref b11), .val (.int (own_f_rm4 p1 ((11 : Int32) + (p0 &&& (7 : Int32))))), .val (.int (1 : Int32)), .val (.int (own_f_rm4 ((11 : Int32) + (p0 &&& (7 : Int32))) ((11 : Int32) + (p0 &&& (7 : Int32))))), .val (.int (own_f_rm4 (((11 : Int32) + (p0 &&& (7 : Int32))) + (1 : Int32)) ((11 : Int32) + (p0 &&& (7 : Int32)))))] [(.int (own_f_rm4 (((11 : Int32) + (p0 &&& (7 : Int32))) + (1 : Int32)) ((11 : Int32) + (p0 &&& (7 : Int32)))))])) _
      refine XS.ifNo X21.here hx rfl (hb hby at_66) rfl ((if0 _ _).trans (teq hc66_24).2) ?_
      show Steps p.tables e below (T21.setTop (mkF m 69 #[.val (.int p0), .val (.int p1), .val (.int ((11 : Int32) + (p0 &&& (7 : Int32)))), .val (.ref b11), .val (.int (own_f_rm4 p1 ((11 : Int32) + (p0 &&& (7 : Int32))))), .val (.int (1 : Int32)), .val (.int (own_f_rm4 ((11 : Int32) + (p0 &&& (7 : Int32))) ((11 : Int32) + (p0 &&& (7 : Int32))))), .val (.int (own_f_rm4 (((11 : Int32) + (p0 &&& (7 : Int32))) + (1 : Int32)) ((11 : Int32) + (p0 &&& (7 : Int32)))))] [])) _
      refine XS.iconst X21.here hx rfl (hb hby at_69) ?_
      show Steps p.tables e below (T21.setTop (mkF m 70 #[.val (.int p0), .val (.int p1), .val (.int ((11 : Int32) + (p0 &&& (7 : Int32)))), .val (.ref b11), .val (.int (own_f_rm4 p1 ((11 : Int32) + (p0 &&& (7 : Int32))))), .val (.int (1 : Int32)), .val (.int (own_f_rm4 ((11 : Int32) + (p0 &&& (7 : Int32))) ((11 : Int32) + (p0 &&& (7 : Int32))))), .val (.int (own_f_rm4 (((11 : Int32) + (p0 &&& (7 : Int32))) + (1 : Int32)) ((11 : Int32) + (p0 &&& (7 : Int32)))))] [(.int (1 : Int32))])) _
      refine XS.goto X21.here hx rfl (pc0 := 70) (pc' := 74) rfl (hb hby at_70) (by decide) (by decide) ?_
      show Steps p.tables e below (T21.setTop (mkF m 74 #[.val (.int p0), .val (.int p1), .val (.int ((11 : Int32) + (p0 &&& (7 : Int32)))), .val (.ref b11), .val (.int (own_f_rm4 p1 ((11 : Int32) + (p0 &&& (7 : Int32))))), .val (.int (1 : Int32)), .val (.int (own_f_rm4 ((11 : Int32) + (p0 &&& (7 : Int32))) ((11 : Int32) + (p0 &&& (7 : Int32))))), .val (.int (own_f_rm4 (((11 : Int32) + (p0 &&& (7 : Int32))) + (1 : Int32)) ((11 : Int32) + (p0 &&& (7 : Int32)))))] [(.int (1 : Int32))])) _
      exact retN X21 hx (t := .boolean) Bd.returns (by simp) (hb hby at_74) hr
    · show Q0 Z p0 p1 h0 n0 _ T21.heap _
      rw [e21]
      exact ⟨rfl, N21⟩
set_option maxRecDepth 65536 in
set_option maxHeartbeats 40000000 in
theorem comes_1 {Post : Tables → Env → Array Value → State → Outcome → State → Prop} (hpost : ∀ tb e args s v u, (limb_1_1.after args s (.returned v) u = true ∧ limb_1_2.after args s (.returned v) u = true ∧ True) → FrameEnd s (.returned v) u (Jvm.fieldLocs frame_1_writes args s ++ Jvm.arrayLocs frame_1_arrays args s ++ Jvm.staticLocs frame_1_statics s) 16 128 → Post tb e args s (.returned v) u) :
    ArmFor flags0 classFile x code maxLocals ret World_1 tables_1 room_1 Calls_1 rest_1 Pre_1 Post := by
  intro l hfl _ _ p e ha hc hk s m args below hf hA hF happ hP
  obtain ⟨hcalls, hrest, hpre⟩ := hP
  obtain ⟨-, -, -, hnamed, -, -, -, hat⟩ := (Spec.applies_iff hf).mp happ
  obtain ⟨hg, hn⟩ := and_e (Cond.before_iff.mp (show (Jvm.Cond.and given_1 narrow_1).before args s = true from hpre))
  obtain ⟨hcount, hg0⟩ := and_e hg
  obtain ⟨hi0, hg1⟩ := and_e hg0
  have hi1 := hg1
  obtain ⟨w0, w1, rfl⟩ : ∃ w0 w1 : Value, args = #[w0, w1] := by
    have hs : args.size = 2 := by simpa [Cond.value, given_1] using hcount
    obtain ⟨L⟩ := args
    match L, hs with
    | [w0, w1], _ => exact ⟨w0, w1, rfl⟩
  have hw := fun d (hd : d ∈ tables_1) => atoms_spec (ws := Jvm.Cond.code x code maxLocals ret :: tables_1) hat d (List.mem_cons_of_mem _ hd)
  have hfit : Fit s := fun {y c} hc i hi => by
    obtain ⟨ha, rfl⟩ := Array.getElem?_eq_some_iff.mp hc
    have q := List.all_eq_true.mp ((Array.all_eq_true_iff_forall_mem.mp hF) _ (Array.getElem_mem ha)) i (List.mem_range.mpr hi)
    simpa [Array.getElem?_eq_getElem hi] using q
  obtain ⟨i0, ei0⟩ := is_v hi0
  obtain rfl : w0 = (.int i0) := Option.some.inj ei0
  obtain ⟨i1, ei1⟩ := is_v hi1
  obtain rfl : w1 = (.int i1) := Option.some.inj ei1
  obtain ⟨n, o, h1, h2, h3, _, L, rfl, ⟨rfl, N⟩, hq⟩ := rm0 l s _ hw tables_1 i0 i1  s.heap s.heap.size (Nat.le_refl _)  p e ha hc hk s m _ below hf ((Spec.applies_iff_loose hf).mp happ).1 ⟨rfl, State.Warmed39.refl s, rfl⟩ trivial
  refine ⟨n, _, h1, h2, h3, hpost _ _ _ _ _ _ ⟨Cond.after_iff.mpr rfl, Cond.after_iff.mpr (eq_i res_at (Term.int_eval (1)) rfl), trivial⟩ ⟨hq.1, hq.2.1, (hq.2.2.sift fun y hy => Or.inr (N y hy)).mono (by decide) (by decide)⟩⟩
theorem main_1_1 : Claimed_1_1 := comes_1 fun _ _ _ _ _ _ h hF => ⟨h.1, hF⟩
theorem main_1_2 : Claimed_1_2 := comes_1 fun _ _ _ _ _ _ h hF => ⟨h.2.1, hF⟩
end Jvm.Pilot.@@N@@
namespace Jvm.Pilot.@@N@@
open Jvm Jvm.ClassFile Sem Op Lib Jvm.Free Jvm.Stand Jvm.Pilot.@@N@@.Jvm.D
/-! MADE BY PROGRAM (witnessworld.py) out of the Statement's table words and the real class files: 10 classes; the members and pool entries that the words name. The judged class is class 1, her method 1. -/
namespace start1
open Jvm.ClassFile
def u (s : String) : CpInfo := .utf8 (stringToUtf16 s)
/-- a pool by its gaps: so many unusable entries, then the entry; so many at the end -/
def gap : Nat → List CpInfo → List CpInfo
  | 0, r => r
  | n + 1, r => .unusable :: gap n r
def poolList (es : List (Nat × CpInfo)) (last : Nat) : List CpInfo := es.foldr (fun e r => gap e.1 (e.2 :: r)) (gap last [])
def pool (es : List (Nat × CpInfo)) (last : Nat) : Array CpInfo := ⟨poolList es last⟩
def fileOf (pool : Array CpInfo) (this : Nat) (attrs : Array Attribute := #[]) (ms : Array MethodInfo := #[]) (fl : Nat := 33) (sup : Nat := 0) (ifs : Array Nat := #[]) (fds : Array FieldInfo := #[]) : ClassFile where
  minorVersion := 0
  majorVersion := 65
  constantPool := pool
  accessFlags := fl
  thisClass := this
  superClass := sup
  interfaces := ifs
  fields := fds
  methods := ms
  attributes := attrs
def plain (name : String) (sup : Option ClassId) : Class where
  name := name
  kind := .ordinary
  loader := none
  accessFlags := 33
  super := sup
  interfaces := #[]
  cf := none
  fields := #[]
  methods := #[]
  instanceTypes := #[]
  staticTypes := #[]
  resolved := #[]
  callSites := []
  init := .initialized
  statics := none
  mirror := none

def pool0 : Array CpInfo := pool [(5, u "<init>"), (0, u "()V"), (1, .class_ 10), (1, u "java/lang/Object")] 113

def k0c0 : Code := { maxStack := 0, maxLocals := 1, code := object_method_1_code, exceptionTable := #[], attributes := #[] }
def k0m0 : Method := { name := "<init>", desc := "()V", sig := { parameters := [], returnType := none }, accessFlags := 1, code := some k0c0 }
/-- java/lang/Object -/
def k0 : Class := { plain "java/lang/Object" none with
  accessFlags := 33
  interfaces := #[]
  cf := some (fileOf pool0 8 #[] #[{ accessFlags := 1, nameIndex := 5, descriptorIndex := 6, attributes := #[] }] 33 0 #[] #[])
  fields := #[]
  methods := #[k0m0]
  instanceTypes := #[]
  staticTypes := #[]
  resolved := Array.replicate 124 none
  statics := none }

def pool1 : Array CpInfo := pool [(2, .class_ 4), (1, u "java/lang/Object"), (0, u "<init>"), (0, u "()V"), (0, .class_ 8), (0, u "com/example/alterlint/alterlint/model/PostgresVersion"), (0, .methodref 7 10), (0, .nameAndType 5 11), (0, u "(I)V"), (0, .methodref 7 13), (0, .nameAndType 14 15), (0, u "atLeast"), (0, u "(I)Z"), (0, .class_ 17), (0, u "com/example/alterlint/alterlint/model/PostgresVersionAtLeastPinLaw"), (2, u "law"), (0, u "(II)Z")] 3

def k1m0 : Method := { name := "<init>", desc := "()V", sig := { parameters := [], returnType := none }, accessFlags := 1, code := none }
def k1c1 : Code := { maxStack := 3, maxLocals := 8, code := code, exceptionTable := #[], attributes := #[] }
def k1m1 : Method := { name := "law", desc := "(II)Z", sig := { parameters := [.int, .int], returnType := some .boolean }, accessFlags := 9, code := some k1c1 }
/-- com/example/alterlint/alterlint/model/PostgresVersionAtLeastPinLaw -/
def k1 : Class := { plain "com/example/alterlint/alterlint/model/PostgresVersionAtLeastPinLaw" (some 0) with
  accessFlags := 49
  interfaces := #[]
  cf := some (fileOf pool1 16 #[] #[{ accessFlags := 1, nameIndex := 5, descriptorIndex := 6, attributes := #[] }, { accessFlags := 9, nameIndex := 20, descriptorIndex := 21, attributes := #[] }] 49 2 #[] #[])
  fields := #[]
  methods := #[k1m0, k1m1]
  instanceTypes := #[]
  staticTypes := #[]
  resolved := Array.replicate 25 none
  statics := none }

def pool2 : Array CpInfo := pool [(1, .methodref 2 3), (0, .class_ 4), (0, .nameAndType 5 6), (0, u "java/lang/Object"), (0, u "<init>"), (0, u "()V"), (0, .class_ 8), (0, u "java/lang/Record")] 13

def k2c0 : Code := { maxStack := 1, maxLocals := 1, code := jdk_30_method_1_code, exceptionTable := #[], attributes := #[] }
def k2m0 : Method := { name := "<init>", desc := "()V", sig := { parameters := [], returnType := none }, accessFlags := 4, code := some k2c0 }
/-- java/lang/Record -/
def k2 : Class := { plain "java/lang/Record" (some 0) with
  accessFlags := 1057
  interfaces := #[]
  cf := some (fileOf pool2 7 #[] #[{ accessFlags := 4, nameIndex := 5, descriptorIndex := 6, attributes := #[] }] 1057 2 #[] #[])
  fields := #[]
  methods := #[k2m0]
  instanceTypes := #[]
  staticTypes := #[]
  resolved := Array.replicate 22 none
  statics := none }

def pool3 : Array CpInfo := pool [(1, .methodref 2 3), (0, .class_ 4), (0, .nameAndType 5 6), (0, u "java/lang/Record"), (0, u "<init>"), (0, u "()V"), (0, .class_ 8), (0, u "com/example/alterlint/alterlint/model/PostgresVersion"), (15, .fieldref 7 25), (0, .nameAndType 26 27), (0, u "major"), (0, u "I"), (11, u "(I)V"), (16, u "DEFAULT"), (0, u "Lcom/example/alterlint/alterlint/model/PostgresVersion;"), (0, u "OLDEST"), (2, u "NEWEST"), (7, u "atLeast"), (0, u "(I)Z")] 31

def k3c0 : Code := { maxStack := 3, maxLocals := 2, code := prog_28_method_1_code, exceptionTable := #[], attributes := #[] }
def k3m0 : Method := { name := "<init>", desc := "(I)V", sig := { parameters := [.int], returnType := none }, accessFlags := 1, code := some k3c0 }
def k3c1 : Code := { maxStack := 2, maxLocals := 2, code := prog_28_method_3_code, exceptionTable := #[], attributes := #[] }
def k3m1 : Method := { name := "atLeast", desc := "(I)Z", sig := { parameters := [.int], returnType := some .boolean }, accessFlags := 1, code := some k3c1 }
/-- com/example/alterlint/alterlint/model/PostgresVersion -/
def k3 : Class := { plain "com/example/alterlint/alterlint/model/PostgresVersion" (some 2) with
  accessFlags := 49
  interfaces := #[]
  cf := some (fileOf pool3 7 #[] #[{ accessFlags := 1, nameIndex := 5, descriptorIndex := 39, attributes := #[] }, { accessFlags := 1, nameIndex := 69, descriptorIndex := 70, attributes := #[] }] 49 2 #[] #[{ accessFlags := 18, nameIndex := 26, descriptorIndex := 27, attributes := #[] }, { accessFlags := 25, nameIndex := 58, descriptorIndex := 27, attributes := #[] }, { accessFlags := 25, nameIndex := 61, descriptorIndex := 27, attributes := #[] }, { accessFlags := 25, nameIndex := 56, descriptorIndex := 57, attributes := #[] }])
  fields := #[{ name := "major", type := .int, accessFlags := 18, slot := 0, constantValue := 0 }, { name := "OLDEST", type := .int, accessFlags := 25, slot := 0, constantValue := 0 }, { name := "NEWEST", type := .int, accessFlags := 25, slot := 1, constantValue := 0 }, { name := "DEFAULT", type := (.object "com/example/alterlint/alterlint/model/PostgresVersion"), accessFlags := 25, slot := 2, constantValue := 0 }]
  methods := #[k3m0, k3m1]
  instanceTypes := #[.int]
  staticTypes := #[.int, .int, (.object "com/example/alterlint/alterlint/model/PostgresVersion")]
  resolved := Array.replicate 102 none
  statics := none }

def pool4 : Array CpInfo := pool [(1, u "java/lang/Cloneable"), (0, .class_ 1), (0, u "java/lang/Object"), (0, .class_ 3)] 3

/-- java/lang/Cloneable -/
def k4 : Class := { plain "java/lang/Cloneable" (some 0) with
  accessFlags := 1537
  interfaces := #[]
  cf := some (fileOf pool4 2 #[] #[] 1537 4 #[] #[])
  fields := #[]
  methods := #[]
  instanceTypes := #[]
  staticTypes := #[]
  resolved := Array.replicate 8 none
  statics := none }

def pool5 : Array CpInfo := pool [(1, u "java/io/Serializable"), (0, .class_ 1), (0, u "java/lang/Object"), (0, .class_ 3)] 3

/-- java/io/Serializable -/
def k5 : Class := { plain "java/io/Serializable" (some 0) with
  accessFlags := 1537
  interfaces := #[]
  cf := some (fileOf pool5 2 #[] #[] 1537 4 #[] #[])
  fields := #[]
  methods := #[]
  instanceTypes := #[]
  staticTypes := #[]
  resolved := Array.replicate 8 none
  statics := none }

/-- the primitive byte -/
def k6 : Class := { plain "byte" none with kind := .primitive 'B', accessFlags := 0x411 }
/-- [B -/
def k7 : Class := { plain "[B" (some 0) with kind := .array 6 .byte, interfaces := #[4, 5], accessFlags := 1041 }

/-- the primitive int -/
def k8 : Class := { plain "int" none with kind := .primitive 'I', accessFlags := 0x411 }
/-- [I -/
def k9 : Class := { plain "[I" (some 0) with kind := .array 8 .int, interfaces := #[4, 5], accessFlags := 1041 }

def heap : Heap := #[]
def classes : Array Class := #[k0, k1, k2, k3, k4, k5, k6, k7, k8, k9]
def interned : List (Array UInt16 × Addr) := []
def slotsUsed : Nat := 0
def theMethod : MethodId := ⟨1, 1⟩
def args0 : Array Value := #[.int 5, .int 12]
def aboutOver (below : List Frame) : State where
  vm := { classes := classes, interned := interned.toArray }
  heap := heap
  slotsUsed := slotsUsed
  threads := #[{ frames := .invoking theMethod args0 :: below }]
def below0 : List Frame := [.native { method := ⟨0, 0⟩, args := #[] }]
def about1 : State := aboutOver below0
def p0 : Program := .bare "" "" ""
def e0 : Env := launch0.env 0 0 0
theorem w_frames : about1.frames = Frame.invoking theMethod args0 :: below0 := rfl
set_option maxRecDepth 65536 in
theorem w_args : argsFit about1.vm theMethod args0 = true := by decide +kernel
set_option maxRecDepth 65536 in
theorem w_heap : heapFits about1 = true := by decide +kernel
set_option maxRecDepth 65536 in
theorem w_runnable : about1.curStatus? = some .runnable := by decide +kernel
set_option maxRecDepth 65536 in
theorem w_alone : about1.alone = true := by decide +kernel
set_option maxRecDepth 65536 in
theorem w_named : about1.methodNamed? x = some theMethod := by decide +kernel
set_option maxRecDepth 65536 in
theorem w_hears : about1.hears theMethod below0 = true := by decide +kernel
set_option maxRecDepth 65536 in
theorem w_ripe : about1.ripe theMethod args0 below0 = true := by decide +kernel
theorem w_running : about1.status = .running := rfl
set_option maxRecDepth 65536 in
theorem w_room : about1.hasRoom e0.platform room_1 = true :=
  launch0.hasRoom_least _ room_1 (by decide +kernel) (by decide +kernel) (by decide +kernel) (by decide +kernel) (by decide +kernel) (by decide +kernel)
theorem allAtoms_all (ts : List Jvm.Cond) (a : Array Jvm.Value) (st : Jvm.State) : (allAtoms ts).before a st = ts.all (fun c => c.before a st) := by
  induction ts with
  | nil => rfl
  | cons c t ih =>
    show (Jvm.Cond.and c (allAtoms t)).before a st = _
    rw [Jvm.Cond.before_and, ih, List.all_cons]
def words1 : List Jvm.Cond := Jvm.Cond.code x code maxLocals ret :: tables_1
/-- a 'code' word, met by the world's own term for the bytes: nothing is compared byte by byte -/
theorem code_word {y : MethodName} {bytes : ByteArray} {mx : Nat} {rt : Option FieldType} {a : Array Value} {s : State} {m : MethodId} {meth : Method} {c : Code} (h1 : s.methodNamed? y = some m) (h2 : s.vm.method? m = some meth) (h3 : meth.code = some c) (h4 : c.code = bytes)
    (h5 : (c.maxLocals == mx && c.exceptionTable.isEmpty && decide (c.maxStack ≤ mostOperands) && decide (meth.sig.returnType = rt) && !meth.locks && decide (parseMethodDescriptor y.desc = some meth.sig)) = true) : (Jvm.Cond.code y bytes mx rt).before a s = true := by
  simp only [Bool.and_eq_true, beq_iff_eq, Bool.not_eq_true', decide_eq_true_eq] at h5
  obtain ⟨⟨⟨⟨⟨g1, g2⟩, g3⟩, g4⟩, g5⟩, g6⟩ := h5
  simp [Cond.before, Cond.holds, Cond.value, h1, h2, h3, h4, g1, g2, g3, g4, g5, g6]
def isCode : Jvm.Cond → Bool
  | .code _ _ _ _ => true
  | _ => false
theorem all_split {L : List Jvm.Cond} {P : Jvm.Cond → Bool} (h1 : L.all (fun c => isCode c || P c) = true) (h2 : ∀ c ∈ L.filter isCode, P c = true) : L.all P = true := by
  refine List.all_eq_true.mpr fun c hc => ?_
  have h := List.all_eq_true.mp h1 c hc
  rcases Bool.eq_false_or_eq_true (isCode c) with hi | hi
  · exact h2 c (List.mem_filter.mpr ⟨hc, hi⟩)
  · simpa [hi] using h
set_option maxRecDepth 65536 in
theorem w_c0 : (Jvm.Cond.code x code maxLocals ret).before args0 about1 = true := code_word (m := ⟨1, 1⟩) (meth := k1m1) (c := k1c1) (by decide +kernel) rfl rfl rfl (by decide +kernel)
set_option maxRecDepth 65536 in
theorem w_c1 : (Jvm.Cond.code ({ cls := "com/example/alterlint/alterlint/model/PostgresVersion", name := "<init>", desc := "(I)V" } : Jvm.MethodName) prog_28_method_1_code (2 : Nat) (Option.none : Option Jvm.ClassFile.FieldType)).before args0 about1 = true := code_word (m := ⟨3, 0⟩) (meth := k3m0) (c := k3c0) (by decide +kernel) rfl rfl rfl (by decide +kernel)
set_option maxRecDepth 65536 in
theorem w_c2 : (Jvm.Cond.code ({ cls := "java/lang/Record", name := "<init>", desc := "()V" } : Jvm.MethodName) jdk_30_method_1_code (1 : Nat) (Option.none : Option Jvm.ClassFile.FieldType)).before args0 about1 = true := code_word (m := ⟨2, 0⟩) (meth := k2m0) (c := k2c0) (by decide +kernel) rfl rfl rfl (by decide +kernel)
set_option maxRecDepth 65536 in
theorem w_c3 : (Jvm.Cond.code ({ cls := "java/lang/Object", name := "<init>", desc := "()V" } : Jvm.MethodName) object_method_1_code (1 : Nat) (Option.none : Option Jvm.ClassFile.FieldType)).before args0 about1 = true := code_word (m := ⟨0, 0⟩) (meth := k0m0) (c := k0c0) (by decide +kernel) rfl rfl rfl (by decide +kernel)
set_option maxRecDepth 65536 in
theorem w_c4 : (Jvm.Cond.code ({ cls := "com/example/alterlint/alterlint/model/PostgresVersion", name := "atLeast", desc := "(I)Z" } : Jvm.MethodName) prog_28_method_3_code (2 : Nat) (Option.some Jvm.ClassFile.FieldType.boolean)).before args0 about1 = true := code_word (m := ⟨3, 1⟩) (meth := k3m1) (c := k3c1) (by decide +kernel) rfl rfl rfl (by decide +kernel)
def codes1 : List Jvm.Cond := [Jvm.Cond.code x code maxLocals ret, Jvm.Cond.code ({ cls := "com/example/alterlint/alterlint/model/PostgresVersion", name := "<init>", desc := "(I)V" } : Jvm.MethodName) prog_28_method_1_code (2 : Nat) (Option.none : Option Jvm.ClassFile.FieldType), Jvm.Cond.code ({ cls := "java/lang/Record", name := "<init>", desc := "()V" } : Jvm.MethodName) jdk_30_method_1_code (1 : Nat) (Option.none : Option Jvm.ClassFile.FieldType), Jvm.Cond.code ({ cls := "java/lang/Object", name := "<init>", desc := "()V" } : Jvm.MethodName) object_method_1_code (1 : Nat) (Option.none : Option Jvm.ClassFile.FieldType), Jvm.Cond.code ({ cls := "com/example/alterlint/alterlint/model/PostgresVersion", name := "atLeast", desc := "(I)Z" } : Jvm.MethodName) prog_28_method_3_code (2 : Nat) (Option.some Jvm.ClassFile.FieldType.boolean)]
set_option maxRecDepth 65536 in
theorem codes_eq : words1.filter isCode = codes1 := rfl
theorem w_codes : ∀ c ∈ words1.filter isCode, c.before args0 about1 = true := by
  rw [codes_eq]
  intro c hc
  simp only [codes1, List.mem_cons, List.not_mem_nil, or_false] at hc
  rcases hc with rfl | rfl | rfl | rfl | rfl
  · exact w_c0
  · exact w_c1
  · exact w_c2
  · exact w_c3
  · exact w_c4
set_option maxRecDepth 65536 in
theorem w_t1 : words1.all (fun c => isCode c || c.before args0 about1) = true := by decide +kernel
theorem w_tables : (allAtoms (Jvm.Cond.code x code maxLocals ret :: tables_1)).before args0 about1 = true := by
  rw [allAtoms_all]
  show words1.all (fun c => c.before args0 about1) = true
  refine all_split ?_ w_codes
  rw [w_t1]
set_option maxRecDepth 65536 in
theorem w_case : (Jvm.Cond.and given_1 narrow_1).before args0 about1 = true := by decide +kernel
theorem w_applies : (headSpec (Jvm.Cond.code x code maxLocals ret :: tables_1) room_1).applies x e0.platform about1 = true :=
  (Spec.applies_iff w_frames).mpr ⟨w_running, w_runnable, w_alone, w_named, w_hears, w_ripe, w_room, w_tables⟩
theorem atStart : AtStart classFile x code maxLocals ret World_1 tables_1 room_1 Calls_1 rest_1 Pre_1 launch0 p0 e0 about1 theMethod args0 below0 :=
  ⟨lists_1, trivial, launch0.admits_env _ _ _, launch0.least_env, fairChoices_fair.cas, fairChoices_fair.clock, w_frames, w_args, w_heap, w_applies, trivial, trivial, w_case⟩
end start1
theorem witness_1 : WitnessClaimed_1 := ⟨start1.p0, start1.e0, start1.about1, start1.theMethod, start1.args0, start1.below0, start1.atStart⟩
end Jvm.Pilot.@@N@@
