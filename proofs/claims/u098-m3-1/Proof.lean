import JvmDerived
import JvmDerived.Pilot.@@N@@Statement
import JvmDerived.Pilot.@@N@@Code
set_option linter.unusedVariables false
set_option linter.unusedSimpArgs false
namespace Jvm.Pilot.@@N@@
open Jvm Jvm.ClassFile Sem Op Lib Jvm.Free Jvm.Stand Jvm.LawKit Jvm.RoadKit Bundle Jvm.Pilot.@@N@@.Jvm.D
theorem own_arrKeep {Z : State} {h h' : Heap} {a : Addr} {c : Cell} {ty : FieldType} {ws : List Addr} (A : Arr Z h a c ty) (K : Keep h h' ws) (q : a ∉ ws) : Arr Z h' a c ty := ⟨K.2.1 _ _ A.1 q, A.2⟩
theorem own_exaPlain {Z : State} {h : Heap} {a : Addr} {C : String} (E : Exa Z h a C) : ∀ c : Cell, h[a]? = some c → c.vm.isStatics = false := fun c hc => by
  obtain ⟨cell, k, h1, -, -, h4, -⟩ := E
  cases h1.symm.trans hc
  exact h4
theorem own_staKeep {Z : State} {h h' : Heap} {C n d : String} {v : Value} {ws : List Addr} (F : Sta Z h C n d v) (K : Keep h h' ws) (q : ∀ x ∈ ws, ∀ c : Cell, h[x]? = some c → c.vm.isStatics = false) : Sta Z h' C n d v := by
  obtain ⟨cf, i, k, f, st, cell, h1, h2, h3, h4, h5, h6, h7⟩ := F
  refine ⟨cf, i, k, f, st, cell, h1, h2, h3, h4, K.2.1 _ _ h5 fun m => ?_, h6, h7⟩
  rw [q st m cell h5] at h6
  cases h6
theorem own_subev {args : Array Value} {s : State} (j : Int32) (nn : ¬ j < 0) : (Term.sub (Term.index 0) (Term.int (128 : Int32))).eval args s none [j.toNatClampNeg] s = some (.int (j - (128 : Int32))) := by
  simp [Term.eval]
  exact (back32 nn).1
theorem own_d1_0 : decode prog_30_method_1_code 0 = .ok (.aload_n 0, 1) := by decide +kernel
theorem own_d1_1 : decode prog_30_method_1_code 1 = .ok (.invokespecial 1, 3) := by decide +kernel
theorem own_d1_4 : decode prog_30_method_1_code 4 = .ok (.aload_n 0, 1) := by decide +kernel
theorem own_d1_5 : decode prog_30_method_1_code 5 = .ok (.iload_n 1, 1) := by decide +kernel
theorem own_d1_6 : decode prog_30_method_1_code 6 = .ok (.putfield 7, 3) := by decide +kernel
theorem own_d1_9 : decode prog_30_method_1_code 9 = .ok (.aload_n 0, 1) := by decide +kernel
theorem own_d1_10 : decode prog_30_method_1_code 10 = .ok (.iload_n 2, 1) := by decide +kernel
theorem own_d1_11 : decode prog_30_method_1_code 11 = .ok (.putfield 13, 3) := by decide +kernel
theorem own_d1_14 : decode prog_30_method_1_code 14 = .ok (.return_, 1) := by decide +kernel
theorem own_pn0 : plainName "com/example/dalby/dalby/mesh/Cell" = true := by first | (simp [plainName, overriddenIn]; done) | decide +kernel
theorem own_ef_rm1 (m : MethodId) (a1 : Addr) (p2 : Int32) (p3 : Int32) : entryFrame m #[(.ref a1), (.int p2), (.int p3)] 3 = mkF m 0 #[.val (.ref a1), .val (.int p2), .val (.int p3)] [] := by first | (simp [entryFrame, mkF, argsToLocals, Value.category]; done) | rfl
def Q1 (Z : State) (a1 : Addr) (p2 : Int32) (p3 : Int32) (h0 : Heap) (n0 : Nat) (v : Option Value) (h : Heap) (L : List Loc) : Prop := v = none ∧ Fr n0 L ∧ Keep h0 h [a1] ∧ Exa Z h a1 "com/example/dalby/dalby/mesh/Cell" ∧ Fld Z h a1 "com/example/dalby/dalby/mesh/Cell" "x" "I" (.int p2) ∧ Fld Z h a1 "com/example/dalby/dalby/mesh/Cell" "y" "I" (.int p3)
set_option maxRecDepth 65536 in
set_option maxHeartbeats 40000000 in
theorem rm1 (l : Launch) (Z : State) (a0 : Array Value) (hw : ∀ d ∈ tables_1, d.before a0 Z = true) (ws : List Jvm.Cond) (a1 : Addr) (p2 : Int32) (p3 : Int32) (h0 : Heap) (n0 : Nat) (Z0 : n0 ≤ h0.size) (E_a1 : Exa Z h0 a1 "com/example/dalby/dalby/mesh/Cell") (F_a1_x : Fld Z h0 a1 "com/example/dalby/dalby/mesh/Cell" "x" "I" (.int (0 : Int32))) (F_a1_y : Fld Z h0 a1 "com/example/dalby/dalby/mesh/Cell" "y" "I" (.int (0 : Int32))) (gg_a1 : n0 ≤ a1) :
    MetFree l (⟨"com/example/dalby/dalby/mesh/Cell", "<init>", "(II)V"⟩ : MethodName) (head1 (Jvm.Cond.code (⟨"com/example/dalby/dalby/mesh/Cell", "<init>", "(II)V"⟩ : MethodName) prog_30_method_1_code 3 none :: ws) ({ frames := 1, cells := 0, slots := 0, locals := 12 } : Room)) (fun a U => a = #[(.ref a1), (.int p2), (.int p3)] ∧ Z.Warmed39 U.vm ∧ U.heap = h0) (fun _ _ _ _ _ => True) (fun _ U o U' => ∃ v L, o = .returned v ∧ Q1 Z a1 p2 p3 h0 n0 v U'.heap L ∧ FrameEnd U o U' L ({ frames := 1, cells := 0, slots := 0, locals := 12 } : Room).cells ({ frames := 1, cells := 0, slots := 0, locals := 12 } : Room).slots) := by
  refine MetFree.of_bodySF (plainFor_of_name own_pn0) hisR ?_
  intro p e s m args below meth c s₁ Bd hml0 hP hK
  obtain ⟨rfl, hZ, hh⟩ := hP
  have hx := Bd.exec
  have hby := Bd.bytes
  have hml : c.maxLocals = 3 := hml0
  have hown : s.vm.findClass "com/example/dalby/dalby/mesh/Cell" = some m.cls := findClass_of_methodNamed Bd.named
  have hnm := (name_of_methodNamed Bd.named Bd.method).1
  have X0 : Stand p l e ({ frames := 1, cells := 0, slots := 0, locals := 12 } : Room) s m #[(.ref a1), (.int p2), (.int p3)] below meth c s₁ [] 0 0 := Stand.of_body Bd
  have e0 : s₁.heap = h0 := by rw [← hh, Bd.state]; rfl
  have N0 := Fr.nil n0
  have K0 : Keep h0 h0 [a1] := Keep.refl h0 _
  have pre0 : ∀ t, Steps p.tables e below (s₁.setTop (mkF m 0 #[.val (.ref a1), .val (.int p2), .val (.int p3)] [])) t → Steps p.tables e below (s₁.setTop (entryFrame m #[(.ref a1), (.int p2), (.int p3)] 3)) t := fun t k => castTop (own_ef_rm1 m a1 p2 p3) k
  obtain ⟨T1, X1, e1, st1⟩ := initO X0 hx hZ hown (hw _ (List.mem_of_getElem? (i := 6) rfl)) (hw _ (List.mem_of_getElem? (i := 7) rfl)) (hw _ (List.mem_of_getElem? (i := 8) rfl)) e0 (g := (mkF m 1 #[.val (.ref a1), .val (.int p2), .val (.int p3)] [(.ref a1)])) rfl (by rw [hml]; rfl) rfl (hb hby own_d1_1) (by decide) (W := 0) (by show 2 * 0 + _ ≤ _; exact Nat.le_of_eq rfl) (by decide)
  obtain ⟨T2, h2, X2, e2, W2, st2⟩ := putF X1 hx hZ hown (host := "") (Or.inl (hw _ (List.mem_of_getElem? (i := 9) rfl))) Via.refl e1 F_a1_x E_a1 (Or.inr ⟨(hw _ (List.mem_of_getElem? (i := 10) rfl)), rfl, hnm⟩) (hw _ (List.mem_of_getElem? (i := 1) rfl)) (ty := .int) (by decide) rfl rfl (g := (mkF m 6 #[.val (.ref a1), .val (.int p2), .val (.int p3)] [(.int p2), (.ref a1)])) rfl rfl (hb hby own_d1_6)
  have Fw2 := F_a1_x.same W2
  have K2 := K0.wr W2 (Or.inl (List.mem_of_getElem? (i := 0) rfl))
  have N2 := Fr.snoc X2 N0 gg_a1
  have Q3 := (E_a1.wr W2)
  have Q4 := (F_a1_y.other W2 (Or.inr (slot_ne (Or.inr (hw _ (List.mem_of_getElem? (i := 12) rfl))) (Or.inr (hw _ (List.mem_of_getElem? (i := 10) rfl))) (by decide) (t := .int) (t' := .int) (by decide) (by decide))))
  obtain ⟨T5, h5, X5, e5, W5, st5⟩ := putF X2 hx hZ hown (host := "") (Or.inl (hw _ (List.mem_of_getElem? (i := 11) rfl))) Via.refl e2 Q4 Q3 (Or.inr ⟨(hw _ (List.mem_of_getElem? (i := 12) rfl)), rfl, hnm⟩) (hw _ (List.mem_of_getElem? (i := 1) rfl)) (ty := .int) (by decide) rfl rfl (g := (mkF m 11 #[.val (.ref a1), .val (.int p2), .val (.int p3)] [(.int p3), (.ref a1)])) rfl rfl (hb hby own_d1_11)
  have Fw5 := Q4.same W5
  have K5 := K2.wr W5 (Or.inl (List.mem_of_getElem? (i := 0) rfl))
  have N5 := Fr.snoc X5 N2 gg_a1
  have Q6 := (Q3.wr W5)
  have Q7 := (Fw2.other W5 (Or.inr (slot_ne (Or.inr (hw _ (List.mem_of_getElem? (i := 10) rfl))) (Or.inr (hw _ (List.mem_of_getElem? (i := 12) rfl))) (by decide) (t := .int) (t' := .int) (by decide) (by decide))))
  obtain ⟨fs, hr, hrun, hended, hW, hsame⟩ := X5.leave (v := none) (fun _ => rfl)
  refine ⟨_, _, pre0 _ ?_, hrun, hended, _, _, rfl, ?_, ⟨_, rfl⟩, hW, hsame.mono (by decide) (by decide)⟩
  · show Steps p.tables e below (s₁.setTop (mkF m 0 #[.val (.ref a1), .val (.int p2), .val (.int p3)] [])) _
    refine XS.aloadN X0.here hx rfl (hb hby own_d1_0) rfl rfl ?_
    show Steps p.tables e below (s₁.setTop (mkF m 1 #[.val (.ref a1), .val (.int p2), .val (.int p3)] [(.ref a1)])) _
    refine st1 _ ?_
    show Steps p.tables e below (T1.setTop (mkF m 4 #[.val (.ref a1), .val (.int p2), .val (.int p3)] [])) _
    refine XS.aloadN X1.here hx rfl (hb hby own_d1_4) rfl rfl ?_
    show Steps p.tables e below (T1.setTop (mkF m 5 #[.val (.ref a1), .val (.int p2), .val (.int p3)] [(.ref a1)])) _
    refine XS.iloadN X1.here hx rfl (hb hby own_d1_5) rfl ?_
    show Steps p.tables e below (T1.setTop (mkF m 6 #[.val (.ref a1), .val (.int p2), .val (.int p3)] [(.int p2), (.ref a1)])) _
    refine st2 _ ?_
    show Steps p.tables e below (T2.setTop (mkF m 9 #[.val (.ref a1), .val (.int p2), .val (.int p3)] [])) _
    refine XS.aloadN X2.here hx rfl (hb hby own_d1_9) rfl rfl ?_
    show Steps p.tables e below (T2.setTop (mkF m 10 #[.val (.ref a1), .val (.int p2), .val (.int p3)] [(.ref a1)])) _
    refine XS.iloadN X2.here hx rfl (hb hby own_d1_10) rfl ?_
    show Steps p.tables e below (T2.setTop (mkF m 11 #[.val (.ref a1), .val (.int p2), .val (.int p3)] [(.int p3), (.ref a1)])) _
    refine st5 _ ?_
    show Steps p.tables e below (T5.setTop (mkF m 14 #[.val (.ref a1), .val (.int p2), .val (.int p3)] [])) _
    exact X5.returnOut hx Bd.returns (hb hby own_d1_14) hr
  · show Q1 Z a1 p2 p3 h0 n0 _ T5.heap _
    rw [e5]
    exact ⟨rfl, N5, K5, Q6, Q7, Fw5⟩
theorem own_d6_0 : decode jdk_18_method_1_code 0 = .ok (.aload_n 0, 1) := by decide +kernel
theorem own_d6_1 : decode jdk_18_method_1_code 1 = .ok (.invokespecial 1, 3) := by decide +kernel
theorem own_d6_4 : decode jdk_18_method_1_code 4 = .ok (.return_, 1) := by decide +kernel
theorem own_pn1 : plainName "java/lang/Number" = true := by first | (simp [plainName, overriddenIn]; done) | decide +kernel
theorem own_ef_rm2 (m : MethodId) (a1 : Addr) : entryFrame m #[(.ref a1)] 1 = mkF m 0 #[.val (.ref a1)] [] := by first | (simp [entryFrame, mkF, argsToLocals, Value.category]; done) | rfl
def Q2 (Z : State) (a1 : Addr) (h0 : Heap) (n0 : Nat) (v : Option Value) (h : Heap) (L : List Loc) : Prop := v = none ∧ Fr n0 L ∧ h = h0
set_option maxRecDepth 65536 in
set_option maxHeartbeats 40000000 in
theorem rm2 (l : Launch) (Z : State) (a0 : Array Value) (hw : ∀ d ∈ tables_1, d.before a0 Z = true) (ws : List Jvm.Cond) (a1 : Addr) (h0 : Heap) (n0 : Nat) (Z0 : n0 ≤ h0.size) :
    MetFree l (⟨"java/lang/Number", "<init>", "()V"⟩ : MethodName) (head1 (Jvm.Cond.code (⟨"java/lang/Number", "<init>", "()V"⟩ : MethodName) jdk_18_method_1_code 1 none :: ws) ({ frames := 1, cells := 0, slots := 0, locals := 12 } : Room)) (fun a U => a = #[(.ref a1)] ∧ Z.Warmed39 U.vm ∧ U.heap = h0) (fun _ _ _ _ _ => True) (fun _ U o U' => ∃ v L, o = .returned v ∧ Q2 Z a1 h0 n0 v U'.heap L ∧ FrameEnd U o U' L ({ frames := 1, cells := 0, slots := 0, locals := 12 } : Room).cells ({ frames := 1, cells := 0, slots := 0, locals := 12 } : Room).slots) := by
  refine MetFree.of_bodySF (plainFor_of_name own_pn1) hisR ?_
  intro p e s m args below meth c s₁ Bd hml0 hP hK
  obtain ⟨rfl, hZ, hh⟩ := hP
  have hx := Bd.exec
  have hby := Bd.bytes
  have hml : c.maxLocals = 1 := hml0
  have hown : s.vm.findClass "java/lang/Number" = some m.cls := findClass_of_methodNamed Bd.named
  have hnm := (name_of_methodNamed Bd.named Bd.method).1
  have X0 : Stand p l e ({ frames := 1, cells := 0, slots := 0, locals := 12 } : Room) s m #[(.ref a1)] below meth c s₁ [] 0 0 := Stand.of_body Bd
  have e0 : s₁.heap = h0 := by rw [← hh, Bd.state]; rfl
  have N0 := Fr.nil n0
  have K0 : Keep h0 h0 [] := Keep.refl h0 _
  have pre0 : ∀ t, Steps p.tables e below (s₁.setTop (mkF m 0 #[.val (.ref a1)] [])) t → Steps p.tables e below (s₁.setTop (entryFrame m #[(.ref a1)] 1)) t := fun t k => castTop (own_ef_rm2 m a1) k
  obtain ⟨T8, X8, e8, st8⟩ := initO X0 hx hZ hown (hw _ (List.mem_of_getElem? (i := 38) rfl)) (hw _ (List.mem_of_getElem? (i := 7) rfl)) (hw _ (List.mem_of_getElem? (i := 8) rfl)) e0 (g := (mkF m 1 #[.val (.ref a1)] [(.ref a1)])) rfl (by rw [hml]; rfl) rfl (hb hby own_d6_1) (by decide) (W := 0) (by show 2 * 0 + _ ≤ _; exact Nat.le_of_eq rfl) (by decide)
  obtain ⟨fs, hr, hrun, hended, hW, hsame⟩ := X8.leave (v := none) (fun _ => rfl)
  refine ⟨_, _, pre0 _ ?_, hrun, hended, _, _, rfl, ?_, ⟨_, rfl⟩, hW, hsame.mono (by decide) (by decide)⟩
  · show Steps p.tables e below (s₁.setTop (mkF m 0 #[.val (.ref a1)] [])) _
    refine XS.aloadN X0.here hx rfl (hb hby own_d6_0) rfl rfl ?_
    show Steps p.tables e below (s₁.setTop (mkF m 1 #[.val (.ref a1)] [(.ref a1)])) _
    refine st8 _ ?_
    show Steps p.tables e below (T8.setTop (mkF m 4 #[.val (.ref a1)] [])) _
    exact X8.returnOut hx Bd.returns (hb hby own_d6_4) hr
  · show Q2 Z a1 h0 n0 _ T8.heap _
    rw [e8]
    exact ⟨rfl, N0, rfl⟩
theorem own_d5_0 : decode jdk_33_method_23_code 0 = .ok (.aload_n 0, 1) := by decide +kernel
theorem own_d5_1 : decode jdk_33_method_23_code 1 = .ok (.invokespecial 202, 3) := by decide +kernel
theorem own_pd0 : parseMethodDescriptor "()V" = some ⟨[], none⟩ := by decide +kernel
theorem own_d5_4 : decode jdk_33_method_23_code 4 = .ok (.aload_n 0, 1) := by decide +kernel
theorem own_d5_5 : decode jdk_33_method_23_code 5 = .ok (.iload_n 1, 1) := by decide +kernel
theorem own_d5_6 : decode jdk_33_method_23_code 6 = .ok (.putfield 205, 3) := by decide +kernel
theorem own_d5_9 : decode jdk_33_method_23_code 9 = .ok (.return_, 1) := by decide +kernel
theorem own_pn2 : plainName "java/lang/Integer" = true := by first | (simp [plainName, overriddenIn]; done) | decide +kernel
theorem own_ef_rm3 (m : MethodId) (a1 : Addr) (p2 : Int32) : entryFrame m #[(.ref a1), (.int p2)] 2 = mkF m 0 #[.val (.ref a1), .val (.int p2)] [] := by first | (simp [entryFrame, mkF, argsToLocals, Value.category]; done) | rfl
def Q3 (Z : State) (a1 : Addr) (p2 : Int32) (h0 : Heap) (n0 : Nat) (v : Option Value) (h : Heap) (L : List Loc) : Prop := v = none ∧ Fr n0 L ∧ Keep h0 h [a1] ∧ Exa Z h a1 "java/lang/Integer"
set_option maxRecDepth 65536 in
set_option maxHeartbeats 40000000 in
theorem rm3 (l : Launch) (Z : State) (a0 : Array Value) (hw : ∀ d ∈ tables_1, d.before a0 Z = true) (ws : List Jvm.Cond) (a1 : Addr) (p2 : Int32) (h0 : Heap) (n0 : Nat) (Z0 : n0 ≤ h0.size) (E_a1 : Exa Z h0 a1 "java/lang/Integer") (F_a1_value : Fld Z h0 a1 "java/lang/Integer" "value" "I" (.int (0 : Int32))) (gg_a1 : n0 ≤ a1) :
    MetFree l (⟨"java/lang/Integer", "<init>", "(I)V"⟩ : MethodName) (head1 (Jvm.Cond.code (⟨"java/lang/Integer", "<init>", "(I)V"⟩ : MethodName) jdk_33_method_23_code 2 none :: ws) ({ frames := 2, cells := 0, slots := 0, locals := 24 } : Room)) (fun a U => a = #[(.ref a1), (.int p2)] ∧ Z.Warmed39 U.vm ∧ U.heap = h0) (fun _ _ _ _ _ => True) (fun _ U o U' => ∃ v L, o = .returned v ∧ Q3 Z a1 p2 h0 n0 v U'.heap L ∧ FrameEnd U o U' L ({ frames := 2, cells := 0, slots := 0, locals := 24 } : Room).cells ({ frames := 2, cells := 0, slots := 0, locals := 24 } : Room).slots) := by
  refine MetFree.of_bodySF (plainFor_of_name own_pn2) hisR ?_
  intro p e s m args below meth c s₁ Bd hml0 hP hK
  obtain ⟨rfl, hZ, hh⟩ := hP
  have hx := Bd.exec
  have hby := Bd.bytes
  have hml : c.maxLocals = 2 := hml0
  have hown : s.vm.findClass "java/lang/Integer" = some m.cls := findClass_of_methodNamed Bd.named
  have hnm := (name_of_methodNamed Bd.named Bd.method).1
  have X0 : Stand p l e ({ frames := 2, cells := 0, slots := 0, locals := 24 } : Room) s m #[(.ref a1), (.int p2)] below meth c s₁ [] 0 0 := Stand.of_body Bd
  have e0 : s₁.heap = h0 := by rw [← hh, Bd.state]; rfl
  have N0 := Fr.nil n0
  have K0 : Keep h0 h0 [a1] := Keep.refl h0 _
  have pre0 : ∀ t, Steps p.tables e below (s₁.setTop (mkF m 0 #[.val (.ref a1), .val (.int p2)] [])) t → Steps p.tables e below (s₁.setTop (entryFrame m #[(.ref a1), (.int p2)] 2)) t := fun t k => castTop (own_ef_rm3 m a1 p2) k
  obtain ⟨_, _, ⟨T9, L9, k9, n9⟩, -, X9, ⟨Lc9, hQ9, l9, y9, z9⟩, st9⟩ := X0.specialBack hx (y := (⟨"java/lang/Number", "<init>", "()V"⟩ : MethodName)) rfl hown (mvT hZ (hw _ (List.mem_of_getElem? (i := 32) rfl))) (mvT hZ (hw _ (List.mem_of_getElem? (i := 33) rfl))) (mvT hZ (hw _ (List.mem_of_getElem? (i := 37) rfl))) (by decide) (backOf (W := 0) (rm2 l Z a0 hw [] a1 h0 n0 (Nat.le_trans Z0 K0.1) ) hZ (hw _ (List.mem_of_getElem? (i := 37) rfl)) (hw _ (List.mem_of_getElem? (i := 36) rfl)) (by decide) (by decide)) (g := (mkF m 1 #[.val (.ref a1), .val (.int p2)] [(.ref a1)])) rfl (by rw [hml]; rfl) (Steps.refl _) (a := a1) (argsL := []) (rest := []) (lenOf own_pd0 rfl) rfl (by show 2 * 0 + _ ≤ _; exact Nat.le_of_eq rfl) (hb hby own_d5_1) (fun _ _ => ⟨rfl, e0, (by decide : 0 + 0 ≤ _), (by decide : 0 + 0 ≤ _)⟩)
  dsimp only [Pt.U, Pt.locs, Pt.cells, Pt.slots] at X9 l9 y9 z9 st9 hQ9
  subst l9 y9 z9
  obtain ⟨rfl, N9q, e9⟩ := hQ9
  have N9 := Fr.app N0 N9q
  obtain ⟨T10, h10, X10, e10, W10, st10⟩ := putF X9 hx hZ hown (host := "") (Or.inl (hw _ (List.mem_of_getElem? (i := 39) rfl))) Via.refl e9 F_a1_value E_a1 (Or.inr ⟨(hw _ (List.mem_of_getElem? (i := 40) rfl)), rfl, hnm⟩) (hw _ (List.mem_of_getElem? (i := 27) rfl)) (ty := .int) (by decide) rfl rfl (g := (mkF m 6 #[.val (.ref a1), .val (.int p2)] [(.int p2), (.ref a1)])) rfl rfl (hb hby own_d5_6)
  have Fw10 := F_a1_value.same W10
  have K10 := K0.wr W10 (Or.inl (List.mem_of_getElem? (i := 0) rfl))
  have N10 := Fr.snoc X10 N9 gg_a1
  have Q11 := (E_a1.wr W10)
  obtain ⟨fs, hr, hrun, hended, hW, hsame⟩ := X10.leave (v := none) (fun _ => rfl)
  refine ⟨_, _, pre0 _ ?_, hrun, hended, _, _, rfl, ?_, ⟨_, rfl⟩, hW, hsame.mono (by decide) (by decide)⟩
  · show Steps p.tables e below (s₁.setTop (mkF m 0 #[.val (.ref a1), .val (.int p2)] [])) _
    refine XS.aloadN X0.here hx rfl (hb hby own_d5_0) rfl rfl ?_
    show Steps p.tables e below (s₁.setTop (mkF m 1 #[.val (.ref a1), .val (.int p2)] [(.ref a1)])) _
    refine st9.trans ?_
    show Steps p.tables e below (T9.setTop (mkF m 4 #[.val (.ref a1), .val (.int p2)] [])) _
    refine XS.aloadN X9.here hx rfl (hb hby own_d5_4) rfl rfl ?_
    show Steps p.tables e below (T9.setTop (mkF m 5 #[.val (.ref a1), .val (.int p2)] [(.ref a1)])) _
    refine XS.iloadN X9.here hx rfl (hb hby own_d5_5) rfl ?_
    show Steps p.tables e below (T9.setTop (mkF m 6 #[.val (.ref a1), .val (.int p2)] [(.int p2), (.ref a1)])) _
    refine st10 _ ?_
    show Steps p.tables e below (T10.setTop (mkF m 9 #[.val (.ref a1), .val (.int p2)] [])) _
    exact X10.returnOut hx Bd.returns (hb hby own_d5_9) hr
  · show Q3 Z a1 p2 h0 n0 _ T10.heap _
    rw [e10]
    exact ⟨rfl, N10, K10, Q11⟩
theorem own_d4_0 : decode jdk_33_method_22_code 0 = .ok (.iload_n 0, 1) := by decide +kernel
theorem own_d4_1 : decode jdk_33_method_22_code 1 = .ok (.bipush (-128), 2) := by decide +kernel
theorem own_d4_3 : decode jdk_33_method_22_code 3 = .ok (.if_icmp .lt 20, 3) := by decide +kernel
theorem own_d4_23 : decode jdk_33_method_22_code 23 = .ok (.new 1, 3) := by decide +kernel
theorem own_d4_26 : decode jdk_33_method_22_code 26 = .ok (.dup, 1) := by decide +kernel
theorem own_d4_27 : decode jdk_33_method_22_code 27 = .ok (.iload_n 0, 1) := by decide +kernel
theorem own_d4_28 : decode jdk_33_method_22_code 28 = .ok (.invokespecial 199, 3) := by decide +kernel
theorem own_pd1 : parseMethodDescriptor "(I)V" = some ⟨[.int], none⟩ := by decide +kernel
theorem own_d4_31 : decode jdk_33_method_22_code 31 = .ok (.areturn, 1) := by decide +kernel
theorem own_ef_rm4_lo (m : MethodId) (p1 : Int32) : entryFrame m #[(.int p1)] 1 = mkF m 0 #[.val (.int p1)] [] := by first | (simp [entryFrame, mkF, argsToLocals, Value.category]; done) | rfl
def Q4_lo (Z : State) (p1 : Int32) (h0 : Heap) (n0 : Nat) (v : Option Value) (h : Heap) (L : List Loc) : Prop := ∃ r : Addr, v = some (.ref r) ∧ Fr n0 L ∧ Keep h0 h [] ∧ Exa Z h r "java/lang/Integer"
set_option maxRecDepth 65536 in
set_option maxHeartbeats 40000000 in
theorem rm4_lo (l : Launch) (Z : State) (a0 : Array Value) (hw : ∀ d ∈ tables_1, d.before a0 Z = true) (ws : List Jvm.Cond) (p1 : Int32) (h0 : Heap) (n0 : Nat) (Z0 : n0 ≤ h0.size) (hlo : p1 < (-128 : Int32)) :
    MetFree l (⟨"java/lang/Integer", "valueOf", "(I)Ljava/lang/Integer;"⟩ : MethodName) (head1 (Jvm.Cond.code (⟨"java/lang/Integer", "valueOf", "(I)Ljava/lang/Integer;"⟩ : MethodName) jdk_33_method_22_code 1 (some (.object "java/lang/Integer")) :: ws) ({ frames := 3, cells := 1, slots := 1, locals := 38 } : Room)) (fun a U => a = #[(.int p1)] ∧ Z.Warmed39 U.vm ∧ U.heap = h0) (fun _ _ _ _ _ => True) (fun _ U o U' => ∃ v L, o = .returned v ∧ Q4_lo Z p1 h0 n0 v U'.heap L ∧ FrameEnd U o U' L ({ frames := 3, cells := 1, slots := 1, locals := 38 } : Room).cells ({ frames := 3, cells := 1, slots := 1, locals := 38 } : Room).slots) := by
  refine MetFree.of_bodySF (plainFor_of_name own_pn2) hisR ?_
  intro p e s m args below meth c s₁ Bd hml0 hP hK
  obtain ⟨rfl, hZ, hh⟩ := hP
  have hx := Bd.exec
  have hby := Bd.bytes
  have hml : c.maxLocals = 1 := hml0
  have hown : s.vm.findClass "java/lang/Integer" = some m.cls := findClass_of_methodNamed Bd.named
  have hnm := (name_of_methodNamed Bd.named Bd.method).1
  have X0 : Stand p l e ({ frames := 3, cells := 1, slots := 1, locals := 38 } : Room) s m #[(.int p1)] below meth c s₁ [] 0 0 := Stand.of_body Bd
  have e0 : s₁.heap = h0 := by rw [← hh, Bd.state]; rfl
  have N0 := Fr.nil n0
  have K0 : Keep h0 h0 [] := Keep.refl h0 _
  have pre0 : ∀ t, Steps p.tables e below (s₁.setTop (mkF m 0 #[.val (.int p1)] [])) t → Steps p.tables e below (s₁.setTop (entryFrame m #[(.int p1)] 1)) t := fun t k => castTop (own_ef_rm4_lo m p1) k
  have hc3_12 : p1 < (-128 : Int32) := hlo
  obtain ⟨T13, h13, X13, e13, E13, A13, D13, -, st13⟩ := newO X0 hx hZ hown (hw _ (List.mem_of_getElem? (i := 26) rfl)) (hw _ (List.mem_of_getElem? (i := 27) rfl)) (hw _ (List.mem_of_getElem? (i := 22) rfl)) e0 (g := (mkF m 23 #[.val (.int p1)] [])) rfl (hb hby own_d4_23) (by decide) (by decide)
  obtain ⟨b13, g13⟩ : ∃ z, z = h0.size := ⟨_, rfl⟩
  rw [← g13] at A13 D13 st13
  have gg_b13 : n0 ≤ b13 := Nat.le_trans (Nat.le_trans Z0 K0.1) (Nat.le_of_eq g13.symm)
  have sz_b13 : h0.size ≤ b13 := Nat.le_trans K0.1 (Nat.le_of_eq g13.symm)
  have K13 := K0.ext E13
  have F13_value : Fld Z h13 b13 "java/lang/Integer" "value" "I" (.int (0 : Int32)) := D13 (Or.inr (hw _ (List.mem_of_getElem? (i := 40) rfl))) (ty := .int) (by decide)
  obtain ⟨_, _, ⟨T14, L14, k14, n14⟩, -, X14, ⟨Lc14, hQ14, l14, y14, z14⟩, st14⟩ := X13.specialBack hx (y := (⟨"java/lang/Integer", "<init>", "(I)V"⟩ : MethodName)) rfl hown (mvT hZ (hw _ (List.mem_of_getElem? (i := 28) rfl))) (mvT hZ (hw _ (List.mem_of_getElem? (i := 29) rfl))) (mvT hZ (hw _ (List.mem_of_getElem? (i := 31) rfl))) (by decide) (backOf (W := 1) (rm3 l Z a0 hw [] b13 p1 h13 n0 (Nat.le_trans Z0 K13.1) A13 F13_value gg_b13) hZ (hw _ (List.mem_of_getElem? (i := 31) rfl)) (hw _ (List.mem_of_getElem? (i := 22) rfl)) (by decide) (by decide)) (g := (mkF m 28 #[.val (.int p1)] [(.int p1), (.ref b13), (.ref b13)])) rfl (by rw [hml]; rfl) (Steps.refl _) (a := b13) (argsL := [(.int p1)]) (rest := [(.ref b13)]) (lenOf own_pd1 rfl) rfl (by show 2 * 0 + _ ≤ _; exact Nat.le_of_eq rfl) (hb hby own_d4_28) (fun _ _ => ⟨rfl, e13, (by decide : 1 + 0 ≤ _), (by decide : 1 + 0 ≤ _)⟩)
  dsimp only [Pt.U, Pt.locs, Pt.cells, Pt.slots] at X14 l14 y14 z14 st14 hQ14
  subst l14 y14 z14
  obtain ⟨rfl, N14q, i14_2, i14_3⟩ := hQ14
  have N14 := Fr.app N0 N14q
  have K14 := K13.trans i14_2 (allS (Or.inr sz_b13) all0)
  obtain ⟨fs, hr, hrun, hended, hW, hsame⟩ := X14.leave (v := some (.ref b13)) (fun h => by rw [Bd.returns] at h; cases h)
  refine ⟨_, _, pre0 _ ?_, hrun, hended, _, _, rfl, ?_, ⟨_, rfl⟩, hW, hsame.mono (by decide) (by decide)⟩
  · show Steps p.tables e below (s₁.setTop (mkF m 0 #[.val (.int p1)] [])) _
    refine XS.iloadN X0.here hx rfl (hb hby own_d4_0) rfl ?_
    show Steps p.tables e below (s₁.setTop (mkF m 1 #[.val (.int p1)] [(.int p1)])) _
    refine XS.bipush X0.here hx rfl (hb hby own_d4_1) ?_
    show Steps p.tables e below (s₁.setTop (mkF m 3 #[.val (.int p1)] [(.int (-128 : Int32)), (.int p1)])) _
    refine XS.icmpYes X0.here hx rfl (pc0 := 3) (pc' := 23) rfl (hb hby own_d4_3) rfl (tlt hc3_12).1 (by decide) (by decide) ?_
    show Steps p.tables e below (s₁.setTop (mkF m 23 #[.val (.int p1)] [])) _
    refine st13 _ ?_
    show Steps p.tables e below (T13.setTop (mkF m 26 #[.val (.int p1)] [(.ref b13)])) _
    refine XS.dup X13.here hx rfl (hb hby own_d4_26) rfl rfl ?_
    show Steps p.tables e below (T13.setTop (mkF m 27 #[.val (.int p1)] [(.ref b13), (.ref b13)])) _
    refine XS.iloadN X13.here hx rfl (hb hby own_d4_27) rfl ?_
    show Steps p.tables e below (T13.setTop (mkF m 28 #[.val (.int p1)] [(.int p1), (.ref b13), (.ref b13)])) _
    refine st14.trans ?_
    show Steps p.tables e below (T14.setTop (mkF m 31 #[.val (.int p1)] [(.ref b13)])) _
    jvm_step X14.here [X14.here.top, hx, (hb hby own_d4_31), X14.method', Bd.returns, Value.isRef, FieldType.isReference]
    first | (intro acts; rw [hr _ acts rfl rfl rfl]) | rw [hr _ _ rfl rfl rfl]
    exact Steps.refl _
  · show Q4_lo Z p1 h0 n0 _ T14.heap _
    exact ⟨b13, rfl, N14, K14, i14_3⟩
theorem own_d4_6 : decode jdk_33_method_22_code 6 = .ok (.iload_n 0, 1) := by decide +kernel
theorem own_d4_7 : decode jdk_33_method_22_code 7 = .ok (.getstatic 191, 3) := by decide +kernel
theorem own_d4_10 : decode jdk_33_method_22_code 10 = .ok (.if_icmp .gt 13, 3) := by decide +kernel
theorem own_ef_rm4_hi (m : MethodId) (p1 : Int32) : entryFrame m #[(.int p1)] 1 = mkF m 0 #[.val (.int p1)] [] := by first | (simp [entryFrame, mkF, argsToLocals, Value.category]; done) | rfl
def Q4_hi (Z : State) (p1 : Int32) (h0 : Heap) (n0 : Nat) (v : Option Value) (h : Heap) (L : List Loc) : Prop := ∃ r : Addr, v = some (.ref r) ∧ Fr n0 L ∧ Keep h0 h [] ∧ Exa Z h r "java/lang/Integer"
set_option maxRecDepth 65536 in
set_option maxHeartbeats 40000000 in
theorem rm4_hi (l : Launch) (Z : State) (a0 : Array Value) (hw : ∀ d ∈ tables_1, d.before a0 Z = true) (ws : List Jvm.Cond) (p1 : Int32) (h0 : Heap) (n0 : Nat) (Z0 : n0 ≤ h0.size) (S_high : Sta Z h0 "java/lang/Integer$IntegerCache" "high" "I" (.int (127 : Int32))) (hlo : ¬ (p1 < (-128 : Int32))) (hhi : (127 : Int32) < p1) :
    MetFree l (⟨"java/lang/Integer", "valueOf", "(I)Ljava/lang/Integer;"⟩ : MethodName) (head1 (Jvm.Cond.code (⟨"java/lang/Integer", "valueOf", "(I)Ljava/lang/Integer;"⟩ : MethodName) jdk_33_method_22_code 1 (some (.object "java/lang/Integer")) :: ws) ({ frames := 3, cells := 1, slots := 1, locals := 38 } : Room)) (fun a U => a = #[(.int p1)] ∧ Z.Warmed39 U.vm ∧ U.heap = h0) (fun _ _ _ _ _ => True) (fun _ U o U' => ∃ v L, o = .returned v ∧ Q4_hi Z p1 h0 n0 v U'.heap L ∧ FrameEnd U o U' L ({ frames := 3, cells := 1, slots := 1, locals := 38 } : Room).cells ({ frames := 3, cells := 1, slots := 1, locals := 38 } : Room).slots) := by
  refine MetFree.of_bodySF (plainFor_of_name own_pn2) hisR ?_
  intro p e s m args below meth c s₁ Bd hml0 hP hK
  obtain ⟨rfl, hZ, hh⟩ := hP
  have hx := Bd.exec
  have hby := Bd.bytes
  have hml : c.maxLocals = 1 := hml0
  have hown : s.vm.findClass "java/lang/Integer" = some m.cls := findClass_of_methodNamed Bd.named
  have hnm := (name_of_methodNamed Bd.named Bd.method).1
  have X0 : Stand p l e ({ frames := 3, cells := 1, slots := 1, locals := 38 } : Room) s m #[(.int p1)] below meth c s₁ [] 0 0 := Stand.of_body Bd
  have e0 : s₁.heap = h0 := by rw [← hh, Bd.state]; rfl
  have N0 := Fr.nil n0
  have K0 : Keep h0 h0 [] := Keep.refl h0 _
  have pre0 : ∀ t, Steps p.tables e below (s₁.setTop (mkF m 0 #[.val (.int p1)] [])) t → Steps p.tables e below (s₁.setTop (entryFrame m #[(.int p1)] 1)) t := fun t k => castTop (own_ef_rm4_hi m p1) k
  have hc3_15 : ¬ (p1 < (-128 : Int32)) := hlo
  obtain ⟨T16, X16, e16, st16⟩ := getS2 X0 hx hZ hown (host := "") (Or.inl (hw _ (List.mem_of_getElem? (i := 24) rfl))) Via.refl e0 S_high (g := (mkF m 7 #[.val (.int p1)] [(.int p1)])) rfl (hb hby own_d4_7)
  have hc10_17 : (127 : Int32) < p1 := hhi
  obtain ⟨T18, h18, X18, e18, E18, A18, D18, -, st18⟩ := newO X16 hx hZ hown (hw _ (List.mem_of_getElem? (i := 26) rfl)) (hw _ (List.mem_of_getElem? (i := 27) rfl)) (hw _ (List.mem_of_getElem? (i := 22) rfl)) e16 (g := (mkF m 23 #[.val (.int p1)] [])) rfl (hb hby own_d4_23) (by decide) (by decide)
  obtain ⟨b18, g18⟩ : ∃ z, z = h0.size := ⟨_, rfl⟩
  rw [← g18] at A18 D18 st18
  have gg_b18 : n0 ≤ b18 := Nat.le_trans (Nat.le_trans Z0 K0.1) (Nat.le_of_eq g18.symm)
  have sz_b18 : h0.size ≤ b18 := Nat.le_trans K0.1 (Nat.le_of_eq g18.symm)
  have K18 := K0.ext E18
  have F18_value : Fld Z h18 b18 "java/lang/Integer" "value" "I" (.int (0 : Int32)) := D18 (Or.inr (hw _ (List.mem_of_getElem? (i := 40) rfl))) (ty := .int) (by decide)
  obtain ⟨_, _, ⟨T19, L19, k19, n19⟩, -, X19, ⟨Lc19, hQ19, l19, y19, z19⟩, st19⟩ := X18.specialBack hx (y := (⟨"java/lang/Integer", "<init>", "(I)V"⟩ : MethodName)) rfl hown (mvT hZ (hw _ (List.mem_of_getElem? (i := 28) rfl))) (mvT hZ (hw _ (List.mem_of_getElem? (i := 29) rfl))) (mvT hZ (hw _ (List.mem_of_getElem? (i := 31) rfl))) (by decide) (backOf (W := 1) (rm3 l Z a0 hw [] b18 p1 h18 n0 (Nat.le_trans Z0 K18.1) A18 F18_value gg_b18) hZ (hw _ (List.mem_of_getElem? (i := 31) rfl)) (hw _ (List.mem_of_getElem? (i := 22) rfl)) (by decide) (by decide)) (g := (mkF m 28 #[.val (.int p1)] [(.int p1), (.ref b18), (.ref b18)])) rfl (by rw [hml]; rfl) (Steps.refl _) (a := b18) (argsL := [(.int p1)]) (rest := [(.ref b18)]) (lenOf own_pd1 rfl) rfl (by show 2 * 0 + _ ≤ _; exact Nat.le_of_eq rfl) (hb hby own_d4_28) (fun _ _ => ⟨rfl, e18, (by decide : 1 + 0 ≤ _), (by decide : 1 + 0 ≤ _)⟩)
  dsimp only [Pt.U, Pt.locs, Pt.cells, Pt.slots] at X19 l19 y19 z19 st19 hQ19
  subst l19 y19 z19
  obtain ⟨rfl, N19q, i19_2, i19_3⟩ := hQ19
  have N19 := Fr.app N0 N19q
  have K19 := K18.trans i19_2 (allS (Or.inr sz_b18) all0)
  obtain ⟨fs, hr, hrun, hended, hW, hsame⟩ := X19.leave (v := some (.ref b18)) (fun h => by rw [Bd.returns] at h; cases h)
  refine ⟨_, _, pre0 _ ?_, hrun, hended, _, _, rfl, ?_, ⟨_, rfl⟩, hW, hsame.mono (by decide) (by decide)⟩
  · show Steps p.tables e below (s₁.setTop (mkF m 0 #[.val (.int p1)] [])) _
    refine XS.iloadN X0.here hx rfl (hb hby own_d4_0) rfl ?_
    show Steps p.tables e below (s₁.setTop (mkF m 1 #[.val (.int p1)] [(.int p1)])) _
    refine XS.bipush X0.here hx rfl (hb hby own_d4_1) ?_
    show Steps p.tables e below (s₁.setTop (mkF m 3 #[.val (.int p1)] [(.int (-128 : Int32)), (.int p1)])) _
    refine XS.icmpNo X0.here hx rfl (hb hby own_d4_3) rfl (flt hc3_15).1 ?_
    show Steps p.tables e below (s₁.setTop (mkF m 6 #[.val (.int p1)] [])) _
    refine XS.iloadN X0.here hx rfl (hb hby own_d4_6) rfl ?_
    show Steps p.tables e below (s₁.setTop (mkF m 7 #[.val (.int p1)] [(.int p1)])) _
    refine st16 _ ?_
    show Steps p.tables e below (T16.setTop (mkF m 10 #[.val (.int p1)] [(.int (127 : Int32)), (.int p1)])) _
    refine XS.icmpYes X16.here hx rfl (pc0 := 10) (pc' := 23) rfl (hb hby own_d4_10) rfl (tlt hc10_17).2.2.1 (by decide) (by decide) ?_
    show Steps p.tables e below (T16.setTop (mkF m 23 #[.val (.int p1)] [])) _
    refine st18 _ ?_
    show Steps p.tables e below (T18.setTop (mkF m 26 #[.val (.int p1)] [(.ref b18)])) _
    refine XS.dup X18.here hx rfl (hb hby own_d4_26) rfl rfl ?_
    show Steps p.tables e below (T18.setTop (mkF m 27 #[.val (.int p1)] [(.ref b18), (.ref b18)])) _
    refine XS.iloadN X18.here hx rfl (hb hby own_d4_27) rfl ?_
    show Steps p.tables e below (T18.setTop (mkF m 28 #[.val (.int p1)] [(.int p1), (.ref b18), (.ref b18)])) _
    refine st19.trans ?_
    show Steps p.tables e below (T19.setTop (mkF m 31 #[.val (.int p1)] [(.ref b18)])) _
    jvm_step X19.here [X19.here.top, hx, (hb hby own_d4_31), X19.method', Bd.returns, Value.isRef, FieldType.isReference]
    first | (intro acts; rw [hr _ acts rfl rfl rfl]) | rw [hr _ _ rfl rfl rfl]
    exact Steps.refl _
  · show Q4_hi Z p1 h0 n0 _ T19.heap _
    exact ⟨b18, rfl, N19, K19, i19_3⟩
theorem own_d4_13 : decode jdk_33_method_22_code 13 = .ok (.getstatic 195, 3) := by decide +kernel
theorem own_d4_16 : decode jdk_33_method_22_code 16 = .ok (.iload_n 0, 1) := by decide +kernel
theorem own_d4_17 : decode jdk_33_method_22_code 17 = .ok (.sipush 128, 3) := by decide +kernel
theorem own_d4_20 : decode jdk_33_method_22_code 20 = .ok (.iadd, 1) := by decide +kernel
theorem own_d4_21 : decode jdk_33_method_22_code 21 = .ok (.aaload, 1) := by decide +kernel
theorem own_d4_22 : decode jdk_33_method_22_code 22 = .ok (.areturn, 1) := by decide +kernel
theorem own_ef_rm4_c (m : MethodId) (p1 : Int32) : entryFrame m #[(.int p1)] 1 = mkF m 0 #[.val (.int p1)] [] := by first | (simp [entryFrame, mkF, argsToLocals, Value.category]; done) | rfl
def Q4_c (Z : State) (p1 : Int32) (w : Addr) (cl : Cell) (y : Addr) (h0 : Heap) (n0 : Nat) (v : Option Value) (h : Heap) (L : List Loc) : Prop := ∃ r : Addr, v = some (.ref r) ∧ Fr n0 L ∧ Keep h0 h [] ∧ Exa Z h r "java/lang/Integer"
set_option maxRecDepth 65536 in
set_option maxHeartbeats 40000000 in
theorem rm4_c (l : Launch) (Z : State) (a0 : Array Value) (hw : ∀ d ∈ tables_1, d.before a0 Z = true) (ws : List Jvm.Cond) (p1 : Int32) (w : Addr) (cl : Cell) (y : Addr) (h0 : Heap) (n0 : Nat) (Z0 : n0 ≤ h0.size) (S_high : Sta Z h0 "java/lang/Integer$IntegerCache" "high" "I" (.int (127 : Int32))) (hlo : ¬ (p1 < (-128 : Int32))) (hhi : ¬ ((127 : Int32) < p1)) (S_cache : Sta Z h0 "java/lang/Integer$IntegerCache" "cache" "[Ljava/lang/Integer;" (.ref w)) (Ar_w : Arr Z h0 w cl (.object "java/lang/Integer")) (hin : ¬ ((p1 + (128 : Int32)) < 0 ∨ cl.slots.size ≤ (p1 + (128 : Int32)).toNatClampNeg)) (hat : cl.slots[(p1 + (128 : Int32)).toNatClampNeg]? = some (.ref y)) (E_y : Exa Z h0 y "java/lang/Integer") :
    MetFree l (⟨"java/lang/Integer", "valueOf", "(I)Ljava/lang/Integer;"⟩ : MethodName) (head1 (Jvm.Cond.code (⟨"java/lang/Integer", "valueOf", "(I)Ljava/lang/Integer;"⟩ : MethodName) jdk_33_method_22_code 1 (some (.object "java/lang/Integer")) :: ws) ({ frames := 0, cells := 0, slots := 0, locals := 0 } : Room)) (fun a U => a = #[(.int p1)] ∧ Z.Warmed39 U.vm ∧ U.heap = h0) (fun _ _ _ _ _ => True) (fun _ U o U' => ∃ v L, o = .returned v ∧ Q4_c Z p1 w cl y h0 n0 v U'.heap L ∧ FrameEnd U o U' L ({ frames := 0, cells := 0, slots := 0, locals := 0 } : Room).cells ({ frames := 0, cells := 0, slots := 0, locals := 0 } : Room).slots) := by
  refine MetFree.of_bodySF (plainFor_of_name own_pn2) hisR ?_
  intro p e s m args below meth c s₁ Bd hml0 hP hK
  obtain ⟨rfl, hZ, hh⟩ := hP
  have hx := Bd.exec
  have hby := Bd.bytes
  have hml : c.maxLocals = 1 := hml0
  have hown : s.vm.findClass "java/lang/Integer" = some m.cls := findClass_of_methodNamed Bd.named
  have hnm := (name_of_methodNamed Bd.named Bd.method).1
  have X0 : Stand p l e ({ frames := 0, cells := 0, slots := 0, locals := 0 } : Room) s m #[(.int p1)] below meth c s₁ [] 0 0 := Stand.of_body Bd
  have e0 : s₁.heap = h0 := by rw [← hh, Bd.state]; rfl
  have N0 := Fr.nil n0
  have K0 : Keep h0 h0 [] := Keep.refl h0 _
  have pre0 : ∀ t, Steps p.tables e below (s₁.setTop (mkF m 0 #[.val (.int p1)] [])) t → Steps p.tables e below (s₁.setTop (entryFrame m #[(.int p1)] 1)) t := fun t k => castTop (own_ef_rm4_c m p1) k
  have hc3_20 : ¬ (p1 < (-128 : Int32)) := hlo
  obtain ⟨T21, X21, e21, st21⟩ := getS2 X0 hx hZ hown (host := "") (Or.inl (hw _ (List.mem_of_getElem? (i := 24) rfl))) Via.refl e0 S_high (g := (mkF m 7 #[.val (.int p1)] [(.int p1)])) rfl (hb hby own_d4_7)
  have hc10_22 : ¬ ((127 : Int32) < p1) := hhi
  obtain ⟨T23, X23, e23, st23⟩ := getS2 X21 hx hZ hown (host := "") (Or.inl (hw _ (List.mem_of_getElem? (i := 44) rfl))) Via.refl e21 S_cache (g := (mkF m 13 #[.val (.int p1)] [])) rfl (hb hby own_d4_13)
  have Ar24 := Ar_w
  have hin24 : ¬ ((p1 + (128 : Int32)) < 0 ∨ cl.slots.size ≤ ((p1 + (128 : Int32))).toNatClampNeg) := hin
  have hat24 : cl.slots[((p1 + (128 : Int32))).toNatClampNeg]? = some (.ref y) := hat
  obtain ⟨fs, hr, hrun, hended, hW, hsame⟩ := X23.leave (v := some (.ref y)) (fun h => by rw [Bd.returns] at h; cases h)
  refine ⟨_, _, pre0 _ ?_, hrun, hended, _, _, rfl, ?_, ⟨_, rfl⟩, hW, hsame.mono (by decide) (by decide)⟩
  · show Steps p.tables e below (s₁.setTop (mkF m 0 #[.val (.int p1)] [])) _
    refine XS.iloadN X0.here hx rfl (hb hby own_d4_0) rfl ?_
    show Steps p.tables e below (s₁.setTop (mkF m 1 #[.val (.int p1)] [(.int p1)])) _
    refine XS.bipush X0.here hx rfl (hb hby own_d4_1) ?_
    show Steps p.tables e below (s₁.setTop (mkF m 3 #[.val (.int p1)] [(.int (-128 : Int32)), (.int p1)])) _
    refine XS.icmpNo X0.here hx rfl (hb hby own_d4_3) rfl (flt hc3_20).1 ?_
    show Steps p.tables e below (s₁.setTop (mkF m 6 #[.val (.int p1)] [])) _
    refine XS.iloadN X0.here hx rfl (hb hby own_d4_6) rfl ?_
    show Steps p.tables e below (s₁.setTop (mkF m 7 #[.val (.int p1)] [(.int p1)])) _
    refine st21 _ ?_
    show Steps p.tables e below (T21.setTop (mkF m 10 #[.val (.int p1)] [(.int (127 : Int32)), (.int p1)])) _
    refine XS.icmpNo X21.here hx rfl (hb hby own_d4_10) rfl (flt hc10_22).2.2.1 ?_
    show Steps p.tables e below (T21.setTop (mkF m 13 #[.val (.int p1)] [])) _
    refine st23 _ ?_
    show Steps p.tables e below (T23.setTop (mkF m 16 #[.val (.int p1)] [(.ref w)])) _
    refine XS.iloadN X23.here hx rfl (hb hby own_d4_16) rfl ?_
    show Steps p.tables e below (T23.setTop (mkF m 17 #[.val (.int p1)] [(.int p1), (.ref w)])) _
    refine XS.sipush X23.here hx rfl (hb hby own_d4_17) ?_
    show Steps p.tables e below (T23.setTop (mkF m 20 #[.val (.int p1)] [(.int (128 : Int32)), (.int p1), (.ref w)])) _
    refine XS.iadd X23.here hx rfl (hb hby own_d4_20) rfl ?_
    show Steps p.tables e below (T23.setTop (mkF m 21 #[.val (.int p1)] [(.int (p1 + (128 : Int32))), (.ref w)])) _
    refine X23.aaload hx (j := (p1 + (128 : Int32))) (v := (.ref y)) (by rw [e23]; exact Ar24.1) (State.isArrayOf_alike hZ.alike Ar24.2.1) rfl Ar24.2.2 hin24 hat24 (g := (mkF m 21 #[.val (.int p1)] [(.int (p1 + (128 : Int32))), (.ref w)])) rfl rfl (hb hby own_d4_21) _ ?_
    show Steps p.tables e below (T23.setTop (mkF m 22 #[.val (.int p1)] [(.ref y)])) _
    jvm_step X23.here [X23.here.top, hx, (hb hby own_d4_22), X23.method', Bd.returns, Value.isRef, FieldType.isReference]
    first | (intro acts; rw [hr _ acts rfl rfl rfl]) | rw [hr _ _ rfl rfl rfl]
    exact Steps.refl _
  · show Q4_c Z p1 w cl y h0 n0 _ T23.heap _
    rw [e23]
    exact ⟨y, rfl, N0, K0, E_y⟩
theorem own_ns {Z : State} {a0 : Array Value} {O K : String} {n : Nat} (w : (Cond.noSuperclass O).before a0 Z = true) (wk : (Cond.instantiable K n).before a0 Z = true) (hn : O ≠ K) : NS Z O K := by
  obtain ⟨c, k, h1, h2, h3, -, -⟩ := Cond.noSuperclass_spec w
  obtain ⟨t, kt, g1, -⟩ := Cond.instantiable_spec wk
  have ne := ids_ne h1 g1 hn
  refine ⟨c, t, h1, g1, fun fuel => ?_⟩
  cases fuel with
  | zero => rfl
  | succ f => simp [Vm.isSubclassAux, ne, h2, h3]
theorem own_no {Z : State} {a0 : Array Value} {C S K : String} {n : Nat} (w : (Cond.superclass C S).before a0 Z = true) (wk : (Cond.instantiable K n).before a0 Z = true) (N : NS Z C K) (hn : C ≠ K) : ∃ c t, Z.vm.findClass C = some c ∧ Z.vm.findClass K = some t ∧ Z.vm.assignable c t = false := by
  obtain ⟨c, t, h0, g0, n3⟩ := N
  obtain ⟨p, k, kp, h1, h2, h3, h4, h5, -, h7⟩ := Cond.superclass_spec h0 w
  obtain ⟨t2, kt, g1, g2, g5, g7, -⟩ := Cond.instantiable_spec wk
  cases g0.symm.trans g1
  have ne := ids_ne h0 g0 hn
  have g8 : kt.isInterface = false := by
    cases q : kt.isInterface
    · rfl
    · simp [q] at g7
  refine ⟨c, t, h0, g0, ?_⟩
  show Z.vm.assignableAux (255 + 1) c t = false
  simp [Vm.assignableAux, ne, h2, g2, h5, g5, g8, Vm.isSubclass, n3]
theorem own_d3_0 : decode prog_30_method_6_code 0 = .ok (.aload_n 1, 1) := by decide +kernel
theorem own_d3_1 : decode prog_30_method_6_code 1 = .ok (.instanceof 8, 3) := by decide +kernel
theorem own_d3_4 : decode prog_30_method_6_code 4 = .ok (.ifCond .eq 34, 3) := by decide +kernel
theorem own_d3_38 : decode prog_30_method_6_code 38 = .ok (.iconst 0, 1) := by decide +kernel
theorem own_d3_39 : decode prog_30_method_6_code 39 = .ok (.ireturn, 1) := by decide +kernel
theorem own_ef_rm5_n (m : MethodId) (a1 : Addr) : entryFrame m #[(.ref a1), .null] 3 = mkF m 0 #[.val (.ref a1), .val .null, .unset] [] := by first | (simp [entryFrame, mkF, argsToLocals, Value.category]; done) | rfl
def Q5_n (Z : State) (a1 : Addr) (h0 : Heap) (n0 : Nat) (v : Option Value) (h : Heap) (L : List Loc) : Prop := v = some (.int (0 : Int32)) ∧ Fr n0 L ∧ h = h0
set_option maxRecDepth 65536 in
set_option maxHeartbeats 40000000 in
theorem rm5_n (l : Launch) (Z : State) (a0 : Array Value) (hw : ∀ d ∈ tables_1, d.before a0 Z = true) (ws : List Jvm.Cond) (a1 : Addr) (h0 : Heap) (n0 : Nat) (Z0 : n0 ≤ h0.size) :
    MetFree l (⟨"com/example/dalby/dalby/mesh/Cell", "equals", "(Ljava/lang/Object;)Z"⟩ : MethodName) (head1 (Jvm.Cond.code (⟨"com/example/dalby/dalby/mesh/Cell", "equals", "(Ljava/lang/Object;)Z"⟩ : MethodName) prog_30_method_6_code 3 (some .boolean) :: ws) ({ frames := 0, cells := 0, slots := 0, locals := 0 } : Room)) (fun a U => a = #[(.ref a1), .null] ∧ Z.Warmed39 U.vm ∧ U.heap = h0) (fun _ _ _ _ _ => True) (fun _ U o U' => ∃ v L, o = .returned v ∧ Q5_n Z a1 h0 n0 v U'.heap L ∧ FrameEnd U o U' L ({ frames := 0, cells := 0, slots := 0, locals := 0 } : Room).cells ({ frames := 0, cells := 0, slots := 0, locals := 0 } : Room).slots) := by
  refine MetFree.of_bodySF (plainFor_of_name own_pn0) hisR ?_
  intro p e s m args below meth c s₁ Bd hml0 hP hK
  obtain ⟨rfl, hZ, hh⟩ := hP
  have hx := Bd.exec
  have hby := Bd.bytes
  have hml : c.maxLocals = 3 := hml0
  have hown : s.vm.findClass "com/example/dalby/dalby/mesh/Cell" = some m.cls := findClass_of_methodNamed Bd.named
  have hnm := (name_of_methodNamed Bd.named Bd.method).1
  have X0 : Stand p l e ({ frames := 0, cells := 0, slots := 0, locals := 0 } : Room) s m #[(.ref a1), .null] below meth c s₁ [] 0 0 := Stand.of_body Bd
  have e0 : s₁.heap = h0 := by rw [← hh, Bd.state]; rfl
  have N0 := Fr.nil n0
  have K0 : Keep h0 h0 [] := Keep.refl h0 _
  have pre0 : ∀ t, Steps p.tables e below (s₁.setTop (mkF m 0 #[.val (.ref a1), .val .null, .unset] [])) t → Steps p.tables e below (s₁.setTop (entryFrame m #[(.ref a1), .null] 3)) t := fun t k => castTop (own_ef_rm5_n m a1) k
  obtain ⟨fs, hr, hrun, hended, hW, hsame⟩ := X0.leave (v := some (.int (0 : Int32))) (fun h => by rw [Bd.returns] at h; cases h)
  refine ⟨_, _, pre0 _ ?_, hrun, hended, _, _, rfl, ?_, ⟨_, rfl⟩, hW, hsame.mono (by decide) (by decide)⟩
  · show Steps p.tables e below (s₁.setTop (mkF m 0 #[.val (.ref a1), .val .null, .unset] [])) _
    refine XS.aloadN X0.here hx rfl (hb hby own_d3_0) rfl rfl ?_
    show Steps p.tables e below (s₁.setTop (mkF m 1 #[.val (.ref a1), .val .null, .unset] [.null])) _
    refine X0.instanceofNull hx (g := (mkF m 1 #[.val (.ref a1), .val .null, .unset] [.null])) rfl rfl (hb hby own_d3_1) _ ?_
    show Steps p.tables e below (s₁.setTop (mkF m 4 #[.val (.ref a1), .val .null, .unset] [(.int (0 : Int32))])) _
    refine XS.ifYes X0.here hx rfl (pc0 := 4) (pc' := 38) rfl (hb hby own_d3_4) rfl ((if0 _ _).trans (teq (by decide : ((0 : Int32) = (0 : Int32)))).1) (by decide) (by decide) ?_
    show Steps p.tables e below (s₁.setTop (mkF m 38 #[.val (.ref a1), .val .null, .unset] [])) _
    refine XS.iconst X0.here hx rfl (hb hby own_d3_38) ?_
    show Steps p.tables e below (s₁.setTop (mkF m 39 #[.val (.ref a1), .val .null, .unset] [(.int (0 : Int32))])) _
    exact retN X0 hx (t := .boolean) Bd.returns (by simp) (hb hby own_d3_39) hr
  · show Q5_n Z a1 h0 n0 _ s₁.heap _
    rw [e0]
    exact ⟨rfl, N0, rfl⟩
theorem own_ef_rm5_i (m : MethodId) (a1 : Addr) (a2 : Addr) : entryFrame m #[(.ref a1), (.ref a2)] 3 = mkF m 0 #[.val (.ref a1), .val (.ref a2), .unset] [] := by first | (simp [entryFrame, mkF, argsToLocals, Value.category]; done) | rfl
def Q5_i (Z : State) (a1 : Addr) (a2 : Addr) (h0 : Heap) (n0 : Nat) (v : Option Value) (h : Heap) (L : List Loc) : Prop := v = some (.int (0 : Int32)) ∧ Fr n0 L ∧ h = h0
set_option maxRecDepth 65536 in
set_option maxHeartbeats 40000000 in
theorem rm5_i (l : Launch) (Z : State) (a0 : Array Value) (hw : ∀ d ∈ tables_1, d.before a0 Z = true) (ws : List Jvm.Cond) (a1 : Addr) (a2 : Addr) (h0 : Heap) (n0 : Nat) (Z0 : n0 ≤ h0.size) (E_a2 : Exa Z h0 a2 "java/lang/Integer") :
    MetFree l (⟨"com/example/dalby/dalby/mesh/Cell", "equals", "(Ljava/lang/Object;)Z"⟩ : MethodName) (head1 (Jvm.Cond.code (⟨"com/example/dalby/dalby/mesh/Cell", "equals", "(Ljava/lang/Object;)Z"⟩ : MethodName) prog_30_method_6_code 3 (some .boolean) :: ws) ({ frames := 0, cells := 0, slots := 0, locals := 0 } : Room)) (fun a U => a = #[(.ref a1), (.ref a2)] ∧ Z.Warmed39 U.vm ∧ U.heap = h0) (fun _ _ _ _ _ => True) (fun _ U o U' => ∃ v L, o = .returned v ∧ Q5_i Z a1 a2 h0 n0 v U'.heap L ∧ FrameEnd U o U' L ({ frames := 0, cells := 0, slots := 0, locals := 0 } : Room).cells ({ frames := 0, cells := 0, slots := 0, locals := 0 } : Room).slots) := by
  refine MetFree.of_bodySF (plainFor_of_name own_pn0) hisR ?_
  intro p e s m args below meth c s₁ Bd hml0 hP hK
  obtain ⟨rfl, hZ, hh⟩ := hP
  have hx := Bd.exec
  have hby := Bd.bytes
  have hml : c.maxLocals = 3 := hml0
  have hown : s.vm.findClass "com/example/dalby/dalby/mesh/Cell" = some m.cls := findClass_of_methodNamed Bd.named
  have hnm := (name_of_methodNamed Bd.named Bd.method).1
  have X0 : Stand p l e ({ frames := 0, cells := 0, slots := 0, locals := 0 } : Room) s m #[(.ref a1), (.ref a2)] below meth c s₁ [] 0 0 := Stand.of_body Bd
  have e0 : s₁.heap = h0 := by rw [← hh, Bd.state]; rfl
  have N0 := Fr.nil n0
  have K0 : Keep h0 h0 [] := Keep.refl h0 _
  have pre0 : ∀ t, Steps p.tables e below (s₁.setTop (mkF m 0 #[.val (.ref a1), .val (.ref a2), .unset] [])) t → Steps p.tables e below (s₁.setTop (entryFrame m #[(.ref a1), (.ref a2)] 3)) t := fun t k => castTop (own_ef_rm5_i m a1 a2) k
  obtain ⟨T25, X25, e25, st25⟩ := instNo X0 hx hZ hown (hw _ (List.mem_of_getElem? (i := 18) rfl)) e0 E_a2 (own_no (hw _ (List.mem_of_getElem? (i := 41) rfl)) (hw _ (List.mem_of_getElem? (i := 1) rfl)) (NS.step (hw _ (List.mem_of_getElem? (i := 41) rfl)) (NS.step (hw _ (List.mem_of_getElem? (i := 42) rfl)) (own_ns (hw _ (List.mem_of_getElem? (i := 43) rfl)) (hw _ (List.mem_of_getElem? (i := 1) rfl)) (by decide)) (by decide)) (by decide)) (by decide)) (g := (mkF m 1 #[.val (.ref a1), .val (.ref a2), .unset] [(.ref a2)])) rfl rfl (hb hby own_d3_1)
  obtain ⟨fs, hr, hrun, hended, hW, hsame⟩ := X25.leave (v := some (.int (0 : Int32))) (fun h => by rw [Bd.returns] at h; cases h)
  refine ⟨_, _, pre0 _ ?_, hrun, hended, _, _, rfl, ?_, ⟨_, rfl⟩, hW, hsame.mono (by decide) (by decide)⟩
  · show Steps p.tables e below (s₁.setTop (mkF m 0 #[.val (.ref a1), .val (.ref a2), .unset] [])) _
    refine XS.aloadN X0.here hx rfl (hb hby own_d3_0) rfl rfl ?_
    show Steps p.tables e below (s₁.setTop (mkF m 1 #[.val (.ref a1), .val (.ref a2), .unset] [(.ref a2)])) _
    refine st25 _ ?_
    show Steps p.tables e below (T25.setTop (mkF m 4 #[.val (.ref a1), .val (.ref a2), .unset] [(.int (0 : Int32))])) _
    refine XS.ifYes X25.here hx rfl (pc0 := 4) (pc' := 38) rfl (hb hby own_d3_4) rfl ((if0 _ _).trans (teq (by decide : ((0 : Int32) = (0 : Int32)))).1) (by decide) (by decide) ?_
    show Steps p.tables e below (T25.setTop (mkF m 38 #[.val (.ref a1), .val (.ref a2), .unset] [])) _
    refine XS.iconst X25.here hx rfl (hb hby own_d3_38) ?_
    show Steps p.tables e below (T25.setTop (mkF m 39 #[.val (.ref a1), .val (.ref a2), .unset] [(.int (0 : Int32))])) _
    exact retN X25 hx (t := .boolean) Bd.returns (by simp) (hb hby own_d3_39) hr
  · show Q5_i Z a1 a2 h0 n0 _ T25.heap _
    rw [e25]
    exact ⟨rfl, N0, rfl⟩
theorem own_d3_7 : decode prog_30_method_6_code 7 = .ok (.aload_n 1, 1) := by decide +kernel
theorem own_d3_8 : decode prog_30_method_6_code 8 = .ok (.checkcast 8, 3) := by decide +kernel
theorem own_d3_11 : decode prog_30_method_6_code 11 = .ok (.astore_n 2, 1) := by decide +kernel
theorem own_d3_12 : decode prog_30_method_6_code 12 = .ok (.aload_n 2, 1) := by decide +kernel
theorem own_d3_13 : decode prog_30_method_6_code 13 = .ok (.getfield 7, 3) := by decide +kernel
theorem own_d3_16 : decode prog_30_method_6_code 16 = .ok (.aload_n 0, 1) := by decide +kernel
theorem own_d3_17 : decode prog_30_method_6_code 17 = .ok (.getfield 7, 3) := by decide +kernel
theorem own_d3_20 : decode prog_30_method_6_code 20 = .ok (.if_icmp .ne 18, 3) := by decide +kernel
theorem own_d3_23 : decode prog_30_method_6_code 23 = .ok (.aload_n 2, 1) := by decide +kernel
theorem own_d3_24 : decode prog_30_method_6_code 24 = .ok (.getfield 13, 3) := by decide +kernel
theorem own_d3_27 : decode prog_30_method_6_code 27 = .ok (.aload_n 0, 1) := by decide +kernel
theorem own_d3_28 : decode prog_30_method_6_code 28 = .ok (.getfield 13, 3) := by decide +kernel
theorem own_d3_31 : decode prog_30_method_6_code 31 = .ok (.if_icmp .ne 7, 3) := by decide +kernel
theorem own_d3_34 : decode prog_30_method_6_code 34 = .ok (.iconst 1, 1) := by decide +kernel
theorem own_d3_35 : decode prog_30_method_6_code 35 = .ok (.goto 4, 3) := by decide +kernel
theorem own_ef_rm5_s (m : MethodId) (a1 : Addr) : entryFrame m #[(.ref a1), (.ref a1)] 3 = mkF m 0 #[.val (.ref a1), .val (.ref a1), .unset] [] := by first | (simp [entryFrame, mkF, argsToLocals, Value.category]; done) | rfl
def Q5_s (Z : State) (a1 : Addr) (x1 : Int32) (y1 : Int32) (h0 : Heap) (n0 : Nat) (v : Option Value) (h : Heap) (L : List Loc) : Prop := v = some (.int (1 : Int32)) ∧ Fr n0 L ∧ h = h0
set_option maxRecDepth 65536 in
set_option maxHeartbeats 40000000 in
theorem rm5_s (l : Launch) (Z : State) (a0 : Array Value) (hw : ∀ d ∈ tables_1, d.before a0 Z = true) (ws : List Jvm.Cond) (a1 : Addr) (x1 : Int32) (y1 : Int32) (h0 : Heap) (n0 : Nat) (Z0 : n0 ≤ h0.size) (E_a1 : Exa Z h0 a1 "com/example/dalby/dalby/mesh/Cell") (F_a1_x : Fld Z h0 a1 "com/example/dalby/dalby/mesh/Cell" "x" "I" (.int x1)) (F_a1_y : Fld Z h0 a1 "com/example/dalby/dalby/mesh/Cell" "y" "I" (.int y1)) :
    MetFree l (⟨"com/example/dalby/dalby/mesh/Cell", "equals", "(Ljava/lang/Object;)Z"⟩ : MethodName) (head1 (Jvm.Cond.code (⟨"com/example/dalby/dalby/mesh/Cell", "equals", "(Ljava/lang/Object;)Z"⟩ : MethodName) prog_30_method_6_code 3 (some .boolean) :: ws) ({ frames := 0, cells := 0, slots := 0, locals := 0 } : Room)) (fun a U => a = #[(.ref a1), (.ref a1)] ∧ Z.Warmed39 U.vm ∧ U.heap = h0) (fun _ _ _ _ _ => True) (fun _ U o U' => ∃ v L, o = .returned v ∧ Q5_s Z a1 x1 y1 h0 n0 v U'.heap L ∧ FrameEnd U o U' L ({ frames := 0, cells := 0, slots := 0, locals := 0 } : Room).cells ({ frames := 0, cells := 0, slots := 0, locals := 0 } : Room).slots) := by
  refine MetFree.of_bodySF (plainFor_of_name own_pn0) hisR ?_
  intro p e s m args below meth c s₁ Bd hml0 hP hK
  obtain ⟨rfl, hZ, hh⟩ := hP
  have hx := Bd.exec
  have hby := Bd.bytes
  have hml : c.maxLocals = 3 := hml0
  have hown : s.vm.findClass "com/example/dalby/dalby/mesh/Cell" = some m.cls := findClass_of_methodNamed Bd.named
  have hnm := (name_of_methodNamed Bd.named Bd.method).1
  have X0 : Stand p l e ({ frames := 0, cells := 0, slots := 0, locals := 0 } : Room) s m #[(.ref a1), (.ref a1)] below meth c s₁ [] 0 0 := Stand.of_body Bd
  have e0 : s₁.heap = h0 := by rw [← hh, Bd.state]; rfl
  have N0 := Fr.nil n0
  have K0 : Keep h0 h0 [] := Keep.refl h0 _
  have pre0 : ∀ t, Steps p.tables e below (s₁.setTop (mkF m 0 #[.val (.ref a1), .val (.ref a1), .unset] [])) t → Steps p.tables e below (s₁.setTop (entryFrame m #[(.ref a1), (.ref a1)] 3)) t := fun t k => castTop (own_ef_rm5_s m a1) k
  obtain ⟨T26, X26, e26, st26⟩ := instY X0 hx hZ hown (hw _ (List.mem_of_getElem? (i := 18) rfl)) e0 (Ins.self E_a1) (g := (mkF m 1 #[.val (.ref a1), .val (.ref a1), .unset] [(.ref a1)])) rfl rfl (hb hby own_d3_1)
  obtain ⟨T27, X27, e27, st27⟩ := castY X26 hx hZ hown (hw _ (List.mem_of_getElem? (i := 18) rfl)) e26 (Ins.self E_a1) (g := (mkF m 8 #[.val (.ref a1), .val (.ref a1), .unset] [(.ref a1)])) rfl rfl (hb hby own_d3_8)
  obtain ⟨T28, X28, e28, st28⟩ := getF X27 hx hZ hown (host := "") (Or.inl (hw _ (List.mem_of_getElem? (i := 9) rfl))) Via.refl e27 F_a1_x (g := (mkF m 13 #[.val (.ref a1), .val (.ref a1), .val (.ref a1)] [(.ref a1)])) rfl rfl (hb hby own_d3_13)
  obtain ⟨T29, X29, e29, st29⟩ := getF X28 hx hZ hown (host := "") (Or.inl (hw _ (List.mem_of_getElem? (i := 9) rfl))) Via.refl e28 F_a1_x (g := (mkF m 17 #[.val (.ref a1), .val (.ref a1), .val (.ref a1)] [(.ref a1), (.int x1)])) rfl rfl (hb hby own_d3_17)
  obtain ⟨T30, X30, e30, st30⟩ := getF X29 hx hZ hown (host := "") (Or.inl (hw _ (List.mem_of_getElem? (i := 11) rfl))) Via.refl e29 F_a1_y (g := (mkF m 24 #[.val (.ref a1), .val (.ref a1), .val (.ref a1)] [(.ref a1)])) rfl rfl (hb hby own_d3_24)
  obtain ⟨T31, X31, e31, st31⟩ := getF X30 hx hZ hown (host := "") (Or.inl (hw _ (List.mem_of_getElem? (i := 11) rfl))) Via.refl e30 F_a1_y (g := (mkF m 28 #[.val (.ref a1), .val (.ref a1), .val (.ref a1)] [(.ref a1), (.int y1)])) rfl rfl (hb hby own_d3_28)
  obtain ⟨fs, hr, hrun, hended, hW, hsame⟩ := X31.leave (v := some (.int (1 : Int32))) (fun h => by rw [Bd.returns] at h; cases h)
  refine ⟨_, _, pre0 _ ?_, hrun, hended, _, _, rfl, ?_, ⟨_, rfl⟩, hW, hsame.mono (by decide) (by decide)⟩
  · show Steps p.tables e below (s₁.setTop (mkF m 0 #[.val (.ref a1), .val (.ref a1), .unset] [])) _
    refine XS.aloadN X0.here hx rfl (hb hby own_d3_0) rfl rfl ?_
    show Steps p.tables e below (s₁.setTop (mkF m 1 #[.val (.ref a1), .val (.ref a1), .unset] [(.ref a1)])) _
    refine st26 _ ?_
    show Steps p.tables e below (T26.setTop (mkF m 4 #[.val (.ref a1), .val (.ref a1), .unset] [(.int (1 : Int32))])) _
    refine XS.ifNo X26.here hx rfl (hb hby own_d3_4) rfl ((if0 _ _).trans (feq (by decide : ¬ ((1 : Int32) = (0 : Int32)))).1) ?_
    show Steps p.tables e below (T26.setTop (mkF m 7 #[.val (.ref a1), .val (.ref a1), .unset] [])) _
    refine XS.aloadN X26.here hx rfl (hb hby own_d3_7) rfl rfl ?_
    show Steps p.tables e below (T26.setTop (mkF m 8 #[.val (.ref a1), .val (.ref a1), .unset] [(.ref a1)])) _
    refine st27 _ ?_
    show Steps p.tables e below (T27.setTop (mkF m 11 #[.val (.ref a1), .val (.ref a1), .unset] [(.ref a1)])) _
    refine XS.astoreN X27.here hx rfl (hb hby own_d3_11) rfl rfl (l' := #[.val (.ref a1), .val (.ref a1), .val (.ref a1)]) rfl ?_
    show Steps p.tables e below (T27.setTop (mkF m 12 #[.val (.ref a1), .val (.ref a1), .val (.ref a1)] [])) _
    refine XS.aloadN X27.here hx rfl (hb hby own_d3_12) rfl rfl ?_
    show Steps p.tables e below (T27.setTop (mkF m 13 #[.val (.ref a1), .val (.ref a1), .val (.ref a1)] [(.ref a1)])) _
    refine st28 _ ?_
    show Steps p.tables e below (T28.setTop (mkF m 16 #[.val (.ref a1), .val (.ref a1), .val (.ref a1)] [(.int x1)])) _
    refine XS.aloadN X28.here hx rfl (hb hby own_d3_16) rfl rfl ?_
    show Steps p.tables e below (T28.setTop (mkF m 17 #[.val (.ref a1), .val (.ref a1), .val (.ref a1)] [(.ref a1), (.int x1)])) _
    refine st29 _ ?_
    show Steps p.tables e below (T29.setTop (mkF m 20 #[.val (.ref a1), .val (.ref a1), .val (.ref a1)] [(.int x1), (.int x1)])) _
    refine XS.icmpNo X29.here hx rfl (hb hby own_d3_20) rfl (teq (rfl : x1 = x1)).2 ?_
    show Steps p.tables e below (T29.setTop (mkF m 23 #[.val (.ref a1), .val (.ref a1), .val (.ref a1)] [])) _
    refine XS.aloadN X29.here hx rfl (hb hby own_d3_23) rfl rfl ?_
    show Steps p.tables e below (T29.setTop (mkF m 24 #[.val (.ref a1), .val (.ref a1), .val (.ref a1)] [(.ref a1)])) _
    refine st30 _ ?_
    show Steps p.tables e below (T30.setTop (mkF m 27 #[.val (.ref a1), .val (.ref a1), .val (.ref a1)] [(.int y1)])) _
    refine XS.aloadN X30.here hx rfl (hb hby own_d3_27) rfl rfl ?_
    show Steps p.tables e below (T30.setTop (mkF m 28 #[.val (.ref a1), .val (.ref a1), .val (.ref a1)] [(.ref a1), (.int y1)])) _
    refine st31 _ ?_
    show Steps p.tables e below (T31.setTop (mkF m 31 #[.val (.ref a1), .val (.ref a1), .val (.ref a1)] [(.int y1), (.int y1)])) _
    refine XS.icmpNo X31.here hx rfl (hb hby own_d3_31) rfl (teq (rfl : y1 = y1)).2 ?_
    show Steps p.tables e below (T31.setTop (mkF m 34 #[.val (.ref a1), .val (.ref a1), .val (.ref a1)] [])) _
    refine XS.iconst X31.here hx rfl (hb hby own_d3_34) ?_
    show Steps p.tables e below (T31.setTop (mkF m 35 #[.val (.ref a1), .val (.ref a1), .val (.ref a1)] [(.int (1 : Int32))])) _
    refine XS.goto X31.here hx rfl (pc0 := 35) (pc' := 39) rfl (hb hby own_d3_35) (by decide) (by decide) ?_
    show Steps p.tables e below (T31.setTop (mkF m 39 #[.val (.ref a1), .val (.ref a1), .val (.ref a1)] [(.int (1 : Int32))])) _
    exact retN X31 hx (t := .boolean) Bd.returns (by simp) (hb hby own_d3_39) hr
  · show Q5_s Z a1 x1 y1 h0 n0 _ T31.heap _
    rw [e31]
    exact ⟨rfl, N0, rfl⟩
def own_f_rm5_e (x1 : Int32) (y1 : Int32) (x2 : Int32) (y2 : Int32) : Int32 := if x2 = x1 then if y2 = y1 then (1 : Int32) else (0 : Int32) else (0 : Int32)
theorem own_ef_rm5_e (m : MethodId) (a1 : Addr) (a2 : Addr) : entryFrame m #[(.ref a1), (.ref a2)] 3 = mkF m 0 #[.val (.ref a1), .val (.ref a2), .unset] [] := by first | (simp [entryFrame, mkF, argsToLocals, Value.category]; done) | rfl
def Q5_e (Z : State) (a1 : Addr) (a2 : Addr) (x1 : Int32) (y1 : Int32) (x2 : Int32) (y2 : Int32) (h0 : Heap) (n0 : Nat) (v : Option Value) (h : Heap) (L : List Loc) : Prop := v = some (.int (own_f_rm5_e x1 y1 x2 y2)) ∧ Fr n0 L ∧ h = h0
set_option maxRecDepth 65536 in
set_option maxHeartbeats 40000000 in
theorem rm5_e (l : Launch) (Z : State) (a0 : Array Value) (hw : ∀ d ∈ tables_1, d.before a0 Z = true) (ws : List Jvm.Cond) (a1 : Addr) (a2 : Addr) (x1 : Int32) (y1 : Int32) (x2 : Int32) (y2 : Int32) (h0 : Heap) (n0 : Nat) (Z0 : n0 ≤ h0.size) (E_a2 : Exa Z h0 a2 "com/example/dalby/dalby/mesh/Cell") (F_a1_x : Fld Z h0 a1 "com/example/dalby/dalby/mesh/Cell" "x" "I" (.int x1)) (F_a1_y : Fld Z h0 a1 "com/example/dalby/dalby/mesh/Cell" "y" "I" (.int y1)) (F_a2_x : Fld Z h0 a2 "com/example/dalby/dalby/mesh/Cell" "x" "I" (.int x2)) (F_a2_y : Fld Z h0 a2 "com/example/dalby/dalby/mesh/Cell" "y" "I" (.int y2)) :
    MetFree l (⟨"com/example/dalby/dalby/mesh/Cell", "equals", "(Ljava/lang/Object;)Z"⟩ : MethodName) (head1 (Jvm.Cond.code (⟨"com/example/dalby/dalby/mesh/Cell", "equals", "(Ljava/lang/Object;)Z"⟩ : MethodName) prog_30_method_6_code 3 (some .boolean) :: ws) ({ frames := 0, cells := 0, slots := 0, locals := 0 } : Room)) (fun a U => a = #[(.ref a1), (.ref a2)] ∧ Z.Warmed39 U.vm ∧ U.heap = h0) (fun _ _ _ _ _ => True) (fun _ U o U' => ∃ v L, o = .returned v ∧ Q5_e Z a1 a2 x1 y1 x2 y2 h0 n0 v U'.heap L ∧ FrameEnd U o U' L ({ frames := 0, cells := 0, slots := 0, locals := 0 } : Room).cells ({ frames := 0, cells := 0, slots := 0, locals := 0 } : Room).slots) := by
  refine MetFree.of_bodySF (plainFor_of_name own_pn0) hisR ?_
  intro p e s m args below meth c s₁ Bd hml0 hP hK
  obtain ⟨rfl, hZ, hh⟩ := hP
  have hx := Bd.exec
  have hby := Bd.bytes
  have hml : c.maxLocals = 3 := hml0
  have hown : s.vm.findClass "com/example/dalby/dalby/mesh/Cell" = some m.cls := findClass_of_methodNamed Bd.named
  have hnm := (name_of_methodNamed Bd.named Bd.method).1
  have X0 : Stand p l e ({ frames := 0, cells := 0, slots := 0, locals := 0 } : Room) s m #[(.ref a1), (.ref a2)] below meth c s₁ [] 0 0 := Stand.of_body Bd
  have e0 : s₁.heap = h0 := by rw [← hh, Bd.state]; rfl
  have N0 := Fr.nil n0
  have K0 : Keep h0 h0 [] := Keep.refl h0 _
  have pre0 : ∀ t, Steps p.tables e below (s₁.setTop (mkF m 0 #[.val (.ref a1), .val (.ref a2), .unset] [])) t → Steps p.tables e below (s₁.setTop (entryFrame m #[(.ref a1), (.ref a2)] 3)) t := fun t k => castTop (own_ef_rm5_e m a1 a2) k
  obtain ⟨T40, X40, e40, st40⟩ := instY X0 hx hZ hown (hw _ (List.mem_of_getElem? (i := 18) rfl)) e0 (Ins.self E_a2) (g := (mkF m 1 #[.val (.ref a1), .val (.ref a2), .unset] [(.ref a2)])) rfl rfl (hb hby own_d3_1)
  obtain ⟨T41, X41, e41, st41⟩ := castY X40 hx hZ hown (hw _ (List.mem_of_getElem? (i := 18) rfl)) e40 (Ins.self E_a2) (g := (mkF m 8 #[.val (.ref a1), .val (.ref a2), .unset] [(.ref a2)])) rfl rfl (hb hby own_d3_8)
  obtain ⟨T42, X42, e42, st42⟩ := getF X41 hx hZ hown (host := "") (Or.inl (hw _ (List.mem_of_getElem? (i := 9) rfl))) Via.refl e41 F_a2_x (g := (mkF m 13 #[.val (.ref a1), .val (.ref a2), .val (.ref a2)] [(.ref a2)])) rfl rfl (hb hby own_d3_13)
  obtain ⟨T43, X43, e43, st43⟩ := getF X42 hx hZ hown (host := "") (Or.inl (hw _ (List.mem_of_getElem? (i := 9) rfl))) Via.refl e42 F_a1_x (g := (mkF m 17 #[.val (.ref a1), .val (.ref a2), .val (.ref a2)] [(.ref a1), (.int x2)])) rfl rfl (hb hby own_d3_17)
  have pre44 : ∀ t, Steps p.tables e below (T43.setTop (mkF m 20 #[.val (.ref a1), .val (.ref a2), .val (.ref a2)] [(.int x1), (.int x2)])) t → Steps p.tables e below (s₁.setTop (entryFrame m #[(.ref a1), (.ref a2)] 3)) t := fun t k => by
    refine pre0 _ ?_
    show Steps p.tables e below (s₁.setTop (mkF m 0 #[.val (.ref a1), .val (.ref a2), .unset] [])) _
    refine XS.aloadN X0.here hx rfl (hb hby own_d3_0) rfl rfl ?_
    show Steps p.tables e below (s₁.setTop (mkF m 1 #[.val (.ref a1), .val (.ref a2), .unset] [(.ref a2)])) _
    refine st40 _ ?_
    show Steps p.tables e below (T40.setTop (mkF m 4 #[.val (.ref a1), .val (.ref a2), .unset] [(.int (1 : Int32))])) _
    refine XS.ifNo X40.here hx rfl (hb hby own_d3_4) rfl ((if0 _ _).trans (feq (by decide : ¬ ((1 : Int32) = (0 : Int32)))).1) ?_
    show Steps p.tables e below (T40.setTop (mkF m 7 #[.val (.ref a1), .val (.ref a2), .unset] [])) _
    refine XS.aloadN X40.here hx rfl (hb hby own_d3_7) rfl rfl ?_
    show Steps p.tables e below (T40.setTop (mkF m 8 #[.val (.ref a1), .val (.ref a2), .unset] [(.ref a2)])) _
    refine st41 _ ?_
    show Steps p.tables e below (T41.setTop (mkF m 11 #[.val (.ref a1), .val (.ref a2), .unset] [(.ref a2)])) _
    refine XS.astoreN X41.here hx rfl (hb hby own_d3_11) rfl rfl (l' := #[.val (.ref a1), .val (.ref a2), .val (.ref a2)]) rfl ?_
    show Steps p.tables e below (T41.setTop (mkF m 12 #[.val (.ref a1), .val (.ref a2), .val (.ref a2)] [])) _
    refine XS.aloadN X41.here hx rfl (hb hby own_d3_12) rfl rfl ?_
    show Steps p.tables e below (T41.setTop (mkF m 13 #[.val (.ref a1), .val (.ref a2), .val (.ref a2)] [(.ref a2)])) _
    refine st42 _ ?_
    show Steps p.tables e below (T42.setTop (mkF m 16 #[.val (.ref a1), .val (.ref a2), .val (.ref a2)] [(.int x2)])) _
    refine XS.aloadN X42.here hx rfl (hb hby own_d3_16) rfl rfl ?_
    show Steps p.tables e below (T42.setTop (mkF m 17 #[.val (.ref a1), .val (.ref a2), .val (.ref a2)] [(.ref a1), (.int x2)])) _
    refine st43 _ ?_
    exact k
  by_cases hc20 : x2 = x1
  · obtain ⟨T45, X45, e45, st45⟩ := getF X43 hx hZ hown (host := "") (Or.inl (hw _ (List.mem_of_getElem? (i := 11) rfl))) Via.refl e43 F_a2_y (g := (mkF m 24 #[.val (.ref a1), .val (.ref a2), .val (.ref a2)] [(.ref a2)])) rfl rfl (hb hby own_d3_24)
    obtain ⟨T46, X46, e46, st46⟩ := getF X45 hx hZ hown (host := "") (Or.inl (hw _ (List.mem_of_getElem? (i := 11) rfl))) Via.refl e45 F_a1_y (g := (mkF m 28 #[.val (.ref a1), .val (.ref a2), .val (.ref a2)] [(.ref a1), (.int y2)])) rfl rfl (hb hby own_d3_28)
    have pre47 : ∀ t, Steps p.tables e below (T46.setTop (mkF m 31 #[.val (.ref a1), .val (.ref a2), .val (.ref a2)] [(.int y1), (.int y2)])) t → Steps p.tables e below (s₁.setTop (entryFrame m #[(.ref a1), (.ref a2)] 3)) t := fun t k => by
      refine pre44 _ ?_
      show Steps p.tables e below (T43.setTop (mkF m 20 #[.val (.ref a1), .val (.ref a2), .val (.ref a2)] [(.int x1), (.int x2)])) _
      refine XS.icmpNo X43.here hx rfl (hb hby own_d3_20) rfl (teq hc20).2 ?_
      show Steps p.tables e below (T43.setTop (mkF m 23 #[.val (.ref a1), .val (.ref a2), .val (.ref a2)] [])) _
      refine XS.aloadN X43.here hx rfl (hb hby own_d3_23) rfl rfl ?_
      show Steps p.tables e below (T43.setTop (mkF m 24 #[.val (.ref a1), .val (.ref a2), .val (.ref a2)] [(.ref a2)])) _
      refine st45 _ ?_
      show Steps p.tables e below (T45.setTop (mkF m 27 #[.val (.ref a1), .val (.ref a2), .val (.ref a2)] [(.int y2)])) _
      refine XS.aloadN X45.here hx rfl (hb hby own_d3_27) rfl rfl ?_
      show Steps p.tables e below (T45.setTop (mkF m 28 #[.val (.ref a1), .val (.ref a2), .val (.ref a2)] [(.ref a1), (.int y2)])) _
      refine st46 _ ?_
      exact k
    by_cases hc31 : y2 = y1
    · obtain ⟨fs, hr, hrun, hended, hW, hsame⟩ := X46.leave (v := some (.int (1 : Int32))) (fun h => by rw [Bd.returns] at h; cases h)
      refine ⟨_, _, pre47 _ ?_, hrun, hended, _, _, rfl, ?_, ⟨_, rfl⟩, hW, hsame.mono (by decide) (by decide)⟩
      · show Steps p.tables e below (T46.setTop (mkF m 31 #[.val (.ref a1), .val (.ref a2), .val (.ref a2)] [(.int y1), (.int y2)])) _
        refine XS.icmpNo X46.here hx rfl (hb hby own_d3_31) rfl (teq hc31).2 ?_
        show Steps p.tables e below (T46.setTop (mkF m 34 #[.val (.ref a1), .val (.ref a2), .val (.ref a2)] [])) _
        refine XS.iconst X46.here hx rfl (hb hby own_d3_34) ?_
        show Steps p.tables e below (T46.setTop (mkF m 35 #[.val (.ref a1), .val (.ref a2), .val (.ref a2)] [(.int (1 : Int32))])) _
        refine XS.goto X46.here hx rfl (pc0 := 35) (pc' := 39) rfl (hb hby own_d3_35) (by decide) (by decide) ?_
        show Steps p.tables e below (T46.setTop (mkF m 39 #[.val (.ref a1), .val (.ref a2), .val (.ref a2)] [(.int (1 : Int32))])) _
        exact retN X46 hx (t := .boolean) Bd.returns (by simp) (hb hby own_d3_39) hr
      · show Q5_e Z a1 a2 x1 y1 x2 y2 h0 n0 _ T46.heap _
        rw [e46]
        exact ⟨(congrArg (fun z => some (Value.int z)) (by unfold own_f_rm5_e; rw [if_pos hc20, if_pos hc31] : (1 : Int32) = (own_f_rm5_e x1 y1 x2 y2))), N0, rfl⟩
    · obtain ⟨fs, hr, hrun, hended, hW, hsame⟩ := X46.leave (v := some (.int (0 : Int32))) (fun h => by rw [Bd.returns] at h; cases h)
      refine ⟨_, _, pre47 _ ?_, hrun, hended, _, _, rfl, ?_, ⟨_, rfl⟩, hW, hsame.mono (by decide) (by decide)⟩
      · show Steps p.tables e below (T46.setTop (mkF m 31 #[.val (.ref a1), .val (.ref a2), .val (.ref a2)] [(.int y1), (.int y2)])) _
        refine XS.icmpYes X46.here hx rfl (pc0 := 31) (pc' := 38) rfl (hb hby own_d3_31) rfl (feq hc31).2 (by decide) (by decide) ?_
        show Steps p.tables e below (T46.setTop (mkF m 38 #[.val (.ref a1), .val (.ref a2), .val (.ref a2)] [])) _
        refine XS.iconst X46.here hx rfl (hb hby own_d3_38) ?_
        show Steps p.tables e below (T46.setTop (mkF m 39 #[.val (.ref a1), .val (.ref a2), .val (.ref a2)] [(.int (0 : Int32))])) _
        exact retN X46 hx (t := .boolean) Bd.returns (by simp) (hb hby own_d3_39) hr
      · show Q5_e Z a1 a2 x1 y1 x2 y2 h0 n0 _ T46.heap _
        rw [e46]
        exact ⟨(congrArg (fun z => some (Value.int z)) (by unfold own_f_rm5_e; rw [if_pos hc20, if_neg hc31] : (0 : Int32) = (own_f_rm5_e x1 y1 x2 y2))), N0, rfl⟩
  · obtain ⟨fs, hr, hrun, hended, hW, hsame⟩ := X43.leave (v := some (.int (0 : Int32))) (fun h => by rw [Bd.returns] at h; cases h)
    refine ⟨_, _, pre44 _ ?_, hrun, hended, _, _, rfl, ?_, ⟨_, rfl⟩, hW, hsame.mono (by decide) (by decide)⟩
    · show Steps p.tables e below (T43.setTop (mkF m 20 #[.val (.ref a1), .val (.ref a2), .val (.ref a2)] [(.int x1), (.int x2)])) _
      refine XS.icmpYes X43.here hx rfl (pc0 := 20) (pc' := 38) rfl (hb hby own_d3_20) rfl (feq hc20).2 (by decide) (by decide) ?_
      show Steps p.tables e below (T43.setTop (mkF m 38 #[.val (.ref a1), .val (.ref a2), .val (.ref a2)] [])) _
      refine XS.iconst X43.here hx rfl (hb hby own_d3_38) ?_
      show Steps p.tables e below (T43.setTop (mkF m 39 #[.val (.ref a1), .val (.ref a2), .val (.ref a2)] [(.int (0 : Int32))])) _
      exact retN X43 hx (t := .boolean) Bd.returns (by simp) (hb hby own_d3_39) hr
    · show Q5_e Z a1 a2 x1 y1 x2 y2 h0 n0 _ T43.heap _
      rw [e43]
      exact ⟨(congrArg (fun z => some (Value.int z)) (by unfold own_f_rm5_e; rw [if_neg hc20] : (0 : Int32) = (own_f_rm5_e x1 y1 x2 y2))), N0, rfl⟩
theorem own_pd2 : parseMethodDescriptor "(II)V" = some ⟨[.int, .int], none⟩ := by decide +kernel
theorem own_pd3 : parseMethodDescriptor "(Ljava/lang/Object;)Z" = some ⟨[(.object "java/lang/Object")], some .boolean⟩ := by decide +kernel
theorem own_pd4 : parseMethodDescriptor "(I)Ljava/lang/Integer;" = some ⟨[.int], some (.object "java/lang/Integer")⟩ := by decide +kernel
theorem own_join {A G : Prop} (h1 : A → G) (h2 : A) : G := h1 h2
theorem own_pn3 : plainName "com/example/dalby/dalby/mesh/CellEqualsPinLaw" = true := by first | (simp [plainName, overriddenIn]; done) | decide +kernel
theorem own_ef_rm0 (m : MethodId) (p0 : Int32) (p1 : Int32) (p2 : Int32) (p3 : Int32) (p4 : Int32) : entryFrame m #[(.int p0), (.int p1), (.int p2), (.int p3), (.int p4)] maxLocals = mkF m 0 #[.val (.int p0), .val (.int p1), .val (.int p2), .val (.int p3), .val (.int p4), .unset, .unset, .unset, .unset, .unset, .unset] [] := by first | (simp [entryFrame, mkF, argsToLocals, Value.category, maxLocals]; done) | rfl
def Q0 (Z : State) (p0 : Int32) (p1 : Int32) (p2 : Int32) (p3 : Int32) (p4 : Int32) (w : Addr) (cl : Cell) (h0 : Heap) (n0 : Nat) (v : Option Value) (h : Heap) (L : List Loc) : Prop := v = some (.int (1 : Int32)) ∧ Fr n0 L
set_option maxRecDepth 65536 in
set_option maxHeartbeats 40000000 in
theorem rm0 (l : Launch) (Z : State) (a0 : Array Value) (hw : ∀ d ∈ tables_1, d.before a0 Z = true) (ws : List Jvm.Cond) (p0 : Int32) (p1 : Int32) (p2 : Int32) (p3 : Int32) (p4 : Int32) (w : Addr) (cl : Cell) (h0 : Heap) (n0 : Nat) (Z0 : n0 ≤ h0.size) (S_high : Sta Z h0 "java/lang/Integer$IntegerCache" "high" "I" (.int (127 : Int32))) (S_cache : Sta Z h0 "java/lang/Integer$IntegerCache" "cache" "[Ljava/lang/Integer;" (.ref w)) (Ar_w : Arr Z h0 w cl (.object "java/lang/Integer")) (hbx : ¬ (p0 < (-128 : Int32)) → ¬ ((127 : Int32) < p0) → ¬ ((p0 + (128 : Int32)) < 0 ∨ cl.slots.size ≤ (p0 + (128 : Int32)).toNatClampNeg) ∧ ∃ y : Addr, cl.slots[(p0 + (128 : Int32)).toNatClampNeg]? = some (.ref y) ∧ Exa Z h0 y "java/lang/Integer") :
    MetFree l x (head1 (Jvm.Cond.code x code maxLocals ret :: ws) room_1) (fun a U => a = #[(.int p0), (.int p1), (.int p2), (.int p3), (.int p4)] ∧ Z.Warmed39 U.vm ∧ U.heap = h0) (fun _ _ _ _ _ => True) (fun _ U o U' => ∃ v L, o = .returned v ∧ Q0 Z p0 p1 p2 p3 p4 w cl h0 n0 v U'.heap L ∧ FrameEnd U o U' L room_1.cells room_1.slots) := by
  refine MetFree.of_bodySF (plainFor_of_name own_pn3) hisR ?_
  intro p e s m args below meth c s₁ Bd hml0 hP hK
  obtain ⟨rfl, hZ, hh⟩ := hP
  have hx := Bd.exec
  have hby := Bd.bytes
  have hml : c.maxLocals = 11 := hml0
  have hown : s.vm.findClass "com/example/dalby/dalby/mesh/CellEqualsPinLaw" = some m.cls := findClass_of_methodNamed Bd.named
  have hnm := (name_of_methodNamed Bd.named Bd.method).1
  have X0 : Stand p l e room_1 s m #[(.int p0), (.int p1), (.int p2), (.int p3), (.int p4)] below meth c s₁ [] 0 0 := Stand.of_body Bd
  have e0 : s₁.heap = h0 := by rw [← hh, Bd.state]; rfl
  have N0 := Fr.nil n0
  have K0 : Keep h0 h0 [] := Keep.refl h0 _
  have pre0 : ∀ t, Steps p.tables e below (s₁.setTop (mkF m 0 #[.val (.int p0), .val (.int p1), .val (.int p2), .val (.int p3), .val (.int p4), .unset, .unset, .unset, .unset, .unset, .unset] [])) t → Steps p.tables e below (s₁.setTop (entryFrame m #[(.int p0), (.int p1), (.int p2), (.int p3), (.int p4)] maxLocals)) t := fun t k => castTop (own_ef_rm0 m p0 p1 p2 p3 p4) k
  refine own_join (A := ∃ (c2 : Int32) (d2 : Int32) (TJ : State), Stand p l e room_1 s m #[(.int p0), (.int p1), (.int p2), (.int p3), (.int p4)] below meth c TJ [] 0 0 ∧ TJ.heap = h0 ∧ (∀ t, Steps p.tables e below (TJ.setTop (mkF m 28 #[.val (.int p0), .val (.int p1), .val (.int p2), .val (.int p3), .val (.int p4), .val (.int c2), .val (.int d2), .unset, .unset, .unset, .unset] [])) t → Steps p.tables e below (s₁.setTop (entryFrame m #[(.int p0), (.int p1), (.int p2), (.int p3), (.int p4)] maxLocals)) t)) ?_ ?_
  · rintro ⟨c2, d2, TJ, XJ, eJ, preJ⟩
    obtain ⟨T55, h55, X55, e55, E55, A55, D55, -, st55⟩ := newO XJ hx hZ hown (hw _ (List.mem_of_getElem? (i := 0) rfl)) (hw _ (List.mem_of_getElem? (i := 1) rfl)) (hw _ (List.mem_of_getElem? (i := 2) rfl)) eJ (g := (mkF m 36 #[.val (.int p0), .val (.int p1), .val (.int p2), .val (.int p3), .val (.int p4), .val (.int c2), .val (.int d2), .val (.int (((p4.toUInt32 >>> ((2 : Int32) &&& 31).toUInt32).toInt32) &&& (3 : Int32))), .unset, .unset, .unset] [])) rfl (hb hby at_36) (by decide) (by decide)
    obtain ⟨b55, g55⟩ : ∃ z, z = h0.size := ⟨_, rfl⟩
    rw [← g55] at A55 D55 st55
    have ne_w_b55 : w ≠ b55 := Nat.ne_of_lt (Nat.lt_of_lt_of_le Ar_w.lt (Nat.le_of_eq g55.symm))
    have gg_b55 : n0 ≤ b55 := Nat.le_trans (Nat.le_trans Z0 K0.1) (Nat.le_of_eq g55.symm)
    have sz_b55 : h0.size ≤ b55 := Nat.le_trans K0.1 (Nat.le_of_eq g55.symm)
    have K55 := K0.ext E55
    have F55_x : Fld Z h55 b55 "com/example/dalby/dalby/mesh/Cell" "x" "I" (.int (0 : Int32)) := D55 (Or.inr (hw _ (List.mem_of_getElem? (i := 10) rfl))) (ty := .int) (by decide)
    have F55_y : Fld Z h55 b55 "com/example/dalby/dalby/mesh/Cell" "y" "I" (.int (0 : Int32)) := D55 (Or.inr (hw _ (List.mem_of_getElem? (i := 12) rfl))) (ty := .int) (by decide)
    obtain ⟨_, _, ⟨T56, L56, k56, n56⟩, -, X56, ⟨Lc56, hQ56, l56, y56, z56⟩, st56⟩ := X55.specialBack hx (y := (⟨"com/example/dalby/dalby/mesh/Cell", "<init>", "(II)V"⟩ : MethodName)) rfl hown (mvT hZ (hw _ (List.mem_of_getElem? (i := 3) rfl))) (mvT hZ (hw _ (List.mem_of_getElem? (i := 4) rfl))) (mvT hZ (hw _ (List.mem_of_getElem? (i := 5) rfl))) (by decide) (backOf (W := 1) (rm1 l Z a0 hw [] b55 p0 p1 h55 n0 (Nat.le_trans Z0 K55.1) A55 F55_x F55_y gg_b55) hZ (hw _ (List.mem_of_getElem? (i := 5) rfl)) (hw _ (List.mem_of_getElem? (i := 2) rfl)) (by decide) (by decide)) (g := (mkF m 42 #[.val (.int p0), .val (.int p1), .val (.int p2), .val (.int p3), .val (.int p4), .val (.int c2), .val (.int d2), .val (.int (((p4.toUInt32 >>> ((2 : Int32) &&& 31).toUInt32).toInt32) &&& (3 : Int32))), .unset, .unset, .unset] [(.int p1), (.int p0), (.ref b55), (.ref b55)])) rfl (by rw [hml]; rfl) (Steps.refl _) (a := b55) (argsL := [(.int p0), (.int p1)]) (rest := [(.ref b55)]) (lenOf own_pd2 rfl) rfl (by show 2 * 0 + _ ≤ _; exact Nat.le_of_eq rfl) (hb hby at_42) (fun _ _ => ⟨rfl, e55, (by decide : 1 + 0 ≤ _), (by decide : 2 + 0 ≤ _)⟩)
    dsimp only [Pt.U, Pt.locs, Pt.cells, Pt.slots] at X56 l56 y56 z56 st56 hQ56
    subst l56 y56 z56
    obtain ⟨rfl, N56q, i56_2, i56_3, i56_4, i56_5⟩ := hQ56
    have N56 := Fr.app N0 N56q
    have K56 := K55.trans i56_2 (allS (Or.inr sz_b55) all0)
    have pre57 : ∀ t, Steps p.tables e below (T56.setTop (mkF m 49 #[.val (.int p0), .val (.int p1), .val (.int p2), .val (.int p3), .val (.int p4), .val (.int c2), .val (.int d2), .val (.int (((p4.toUInt32 >>> ((2 : Int32) &&& 31).toUInt32).toInt32) &&& (3 : Int32))), .val (.ref b55), .unset, .unset] [(.int (((p4.toUInt32 >>> ((2 : Int32) &&& 31).toUInt32).toInt32) &&& (3 : Int32)))])) t → Steps p.tables e below (s₁.setTop (entryFrame m #[(.int p0), (.int p1), (.int p2), (.int p3), (.int p4)] maxLocals)) t := fun t k => by
      refine preJ _ ?_
      show Steps p.tables e below (TJ.setTop (mkF m 28 #[.val (.int p0), .val (.int p1), .val (.int p2), .val (.int p3), .val (.int p4), .val (.int c2), .val (.int d2), .unset, .unset, .unset, .unset] [])) _
      refine XS.iload XJ.here hx rfl (hb hby at_28) rfl ?_
      show Steps p.tables e below (TJ.setTop (mkF m 30 #[.val (.int p0), .val (.int p1), .val (.int p2), .val (.int p3), .val (.int p4), .val (.int c2), .val (.int d2), .unset, .unset, .unset, .unset] [(.int p4)])) _
      refine XS.iconst XJ.here hx rfl (hb hby at_30) ?_
      show Steps p.tables e below (TJ.setTop (mkF m 31 #[.val (.int p0), .val (.int p1), .val (.int p2), .val (.int p3), .val (.int p4), .val (.int c2), .val (.int d2), .unset, .unset, .unset, .unset] [(.int (2 : Int32)), (.int p4)])) _
      refine XS.iushr XJ.here hx rfl (hb hby at_31) rfl ?_
      show Steps p.tables e below (TJ.setTop (mkF m 32 #[.val (.int p0), .val (.int p1), .val (.int p2), .val (.int p3), .val (.int p4), .val (.int c2), .val (.int d2), .unset, .unset, .unset, .unset] [(.int ((p4.toUInt32 >>> ((2 : Int32) &&& 31).toUInt32).toInt32))])) _
      refine XS.iconst XJ.here hx rfl (hb hby at_32) ?_
      show Steps p.tables e below (TJ.setTop (mkF m 33 #[.val (.int p0), .val (.int p1), .val (.int p2), .val (.int p3), .val (.int p4), .val (.int c2), .val (.int d2), .unset, .unset, .unset, .unset] [(.int (3 : Int32)), (.int ((p4.toUInt32 >>> ((2 : Int32) &&& 31).toUInt32).toInt32))])) _
      refine XS.iand XJ.here hx rfl (hb hby at_33) rfl ?_
      show Steps p.tables e below (TJ.setTop (mkF m 34 #[.val (.int p0), .val (.int p1), .val (.int p2), .val (.int p3), .val (.int p4), .val (.int c2), .val (.int d2), .unset, .unset, .unset, .unset] [(.int (((p4.toUInt32 >>> ((2 : Int32) &&& 31).toUInt32).toInt32) &&& (3 : Int32)))])) _
      refine XS.istore XJ.here hx rfl (hb hby at_34) rfl (l' := #[.val (.int p0), .val (.int p1), .val (.int p2), .val (.int p3), .val (.int p4), .val (.int c2), .val (.int d2), .val (.int (((p4.toUInt32 >>> ((2 : Int32) &&& 31).toUInt32).toInt32) &&& (3 : Int32))), .unset, .unset, .unset]) rfl ?_
      show Steps p.tables e below (TJ.setTop (mkF m 36 #[.val (.int p0), .val (.int p1), .val (.int p2), .val (.int p3), .val (.int p4), .val (.int c2), .val (.int d2), .val (.int (((p4.toUInt32 >>> ((2 : Int32) &&& 31).toUInt32).toInt32) &&& (3 : Int32))), .unset, .unset, .unset] [])) _
      refine st55 _ ?_
      show Steps p.tables e below (T55.setTop (mkF m 39 #[.val (.int p0), .val (.int p1), .val (.int p2), .val (.int p3), .val (.int p4), .val (.int c2), .val (.int d2), .val (.int (((p4.toUInt32 >>> ((2 : Int32) &&& 31).toUInt32).toInt32) &&& (3 : Int32))), .unset, .unset, .unset] [(.ref b55)])) _
      refine XS.dup X55.here hx rfl (hb hby at_39) rfl rfl ?_
      show Steps p.tables e below (T55.setTop (mkF m 40 #[.val (.int p0), .val (.int p1), .val (.int p2), .val (.int p3), .val (.int p4), .val (.int c2), .val (.int d2), .val (.int (((p4.toUInt32 >>> ((2 : Int32) &&& 31).toUInt32).toInt32) &&& (3 : Int32))), .unset, .unset, .unset] [(.ref b55), (.ref b55)])) _
      refine XS.iloadN X55.here hx rfl (hb hby at_40) rfl ?_
      show Steps p.tables e below (T55.setTop (mkF m 41 #[.val (.int p0), .val (.int p1), .val (.int p2), .val (.int p3), .val (.int p4), .val (.int c2), .val (.int d2), .val (.int (((p4.toUInt32 >>> ((2 : Int32) &&& 31).toUInt32).toInt32) &&& (3 : Int32))), .unset, .unset, .unset] [(.int p0), (.ref b55), (.ref b55)])) _
      refine XS.iloadN X55.here hx rfl (hb hby at_41) rfl ?_
      show Steps p.tables e below (T55.setTop (mkF m 42 #[.val (.int p0), .val (.int p1), .val (.int p2), .val (.int p3), .val (.int p4), .val (.int c2), .val (.int d2), .val (.int (((p4.toUInt32 >>> ((2 : Int32) &&& 31).toUInt32).toInt32) &&& (3 : Int32))), .unset, .unset, .unset] [(.int p1), (.int p0), (.ref b55), (.ref b55)])) _
      refine st56.trans ?_
      show Steps p.tables e below (T56.setTop (mkF m 45 #[.val (.int p0), .val (.int p1), .val (.int p2), .val (.int p3), .val (.int p4), .val (.int c2), .val (.int d2), .val (.int (((p4.toUInt32 >>> ((2 : Int32) &&& 31).toUInt32).toInt32) &&& (3 : Int32))), .unset, .unset, .unset] [(.ref b55)])) _
      refine XS.astore X56.here hx rfl (hb hby at_45) rfl rfl (l' := #[.val (.int p0), .val (.int p1), .val (.int p2), .val (.int p3), .val (.int p4), .val (.int c2), .val (.int d2), .val (.int (((p4.toUInt32 >>> ((2 : Int32) &&& 31).toUInt32).toInt32) &&& (3 : Int32))), .val (.ref b55), .unset, .unset]) rfl ?_
      show Steps p.tables e below (T56.setTop (mkF m 47 #[.val (.int p0), .val (.int p1), .val (.int p2), .val (.int p3), .val (.int p4), .val (.int c2), .val (.int d2), .val (.int (((p4.toUInt32 >>> ((2 : Int32) &&& 31).toUInt32).toInt32) &&& (3 : Int32))), .val (.ref b55), .unset, .unset] [])) _
      refine XS.iload X56.here hx rfl (hb hby at_47) rfl ?_
      exact k
    by_cases hc49 : (((p4.toUInt32 >>> ((2 : Int32) &&& 31).toUInt32).toInt32) &&& (3 : Int32)) = (0 : Int32)
    · obtain ⟨T58, h58, X58, e58, E58, A58, D58, -, st58⟩ := newO X56 hx hZ hown (hw _ (List.mem_of_getElem? (i := 0) rfl)) (hw _ (List.mem_of_getElem? (i := 1) rfl)) (hw _ (List.mem_of_getElem? (i := 2) rfl)) rfl (g := (mkF m 52 #[.val (.int p0), .val (.int p1), .val (.int p2), .val (.int p3), .val (.int p4), .val (.int c2), .val (.int d2), .val (.int (((p4.toUInt32 >>> ((2 : Int32) &&& 31).toUInt32).toInt32) &&& (3 : Int32))), .val (.ref b55), .unset, .unset] [])) rfl (hb hby at_52) (by decide) (by decide)
      obtain ⟨b58, g58⟩ : ∃ z, z = T56.heap.size := ⟨_, rfl⟩
      rw [← g58] at A58 D58 st58
      have Q59 := (own_arrKeep (Ar_w.ext E55) i56_2 (ninS ne_w_b55 nin0))
      have ne_w_b58 : w ≠ b58 := Nat.ne_of_lt (Nat.lt_of_lt_of_le Q59.lt (Nat.le_of_eq g58.symm))
      have ne_b55_b58 : b55 ≠ b58 := Nat.ne_of_lt (Nat.lt_of_lt_of_le i56_3.lt (Nat.le_of_eq g58.symm))
      have gg_b58 : n0 ≤ b58 := Nat.le_trans (Nat.le_trans Z0 K56.1) (Nat.le_of_eq g58.symm)
      have sz_b58 : h0.size ≤ b58 := Nat.le_trans K56.1 (Nat.le_of_eq g58.symm)
      have K58 := K56.ext E58
      have F58_x : Fld Z h58 b58 "com/example/dalby/dalby/mesh/Cell" "x" "I" (.int (0 : Int32)) := D58 (Or.inr (hw _ (List.mem_of_getElem? (i := 10) rfl))) (ty := .int) (by decide)
      have F58_y : Fld Z h58 b58 "com/example/dalby/dalby/mesh/Cell" "y" "I" (.int (0 : Int32)) := D58 (Or.inr (hw _ (List.mem_of_getElem? (i := 12) rfl))) (ty := .int) (by decide)
      obtain ⟨_, _, ⟨T60, L60, k60, n60⟩, -, X60, ⟨Lc60, hQ60, l60, y60, z60⟩, st60⟩ := X58.specialBack hx (y := (⟨"com/example/dalby/dalby/mesh/Cell", "<init>", "(II)V"⟩ : MethodName)) rfl hown (mvT hZ (hw _ (List.mem_of_getElem? (i := 3) rfl))) (mvT hZ (hw _ (List.mem_of_getElem? (i := 4) rfl))) (mvT hZ (hw _ (List.mem_of_getElem? (i := 5) rfl))) (by decide) (backOf (W := 1) (rm1 l Z a0 hw [] b58 c2 d2 h58 n0 (Nat.le_trans Z0 K58.1) A58 F58_x F58_y gg_b58) hZ (hw _ (List.mem_of_getElem? (i := 5) rfl)) (hw _ (List.mem_of_getElem? (i := 2) rfl)) (by decide) (by decide)) (g := (mkF m 60 #[.val (.int p0), .val (.int p1), .val (.int p2), .val (.int p3), .val (.int p4), .val (.int c2), .val (.int d2), .val (.int (((p4.toUInt32 >>> ((2 : Int32) &&& 31).toUInt32).toInt32) &&& (3 : Int32))), .val (.ref b55), .unset, .unset] [(.int d2), (.int c2), (.ref b58), (.ref b58)])) rfl (by rw [hml]; rfl) (Steps.refl _) (a := b58) (argsL := [(.int c2), (.int d2)]) (rest := [(.ref b58)]) (lenOf own_pd2 rfl) rfl (by show 2 * 0 + _ ≤ _; exact Nat.le_of_eq rfl) (hb hby at_60) (fun _ _ => ⟨rfl, e58, (by decide : 2 + 0 ≤ _), (by decide : 4 + 0 ≤ _)⟩)
      dsimp only [Pt.U, Pt.locs, Pt.cells, Pt.slots] at X60 l60 y60 z60 st60 hQ60
      subst l60 y60 z60
      obtain ⟨rfl, N60q, i60_2, i60_3, i60_4, i60_5⟩ := hQ60
      have N60 := Fr.app N56 N60q
      have K60 := K58.trans i60_2 (allS (Or.inr sz_b58) all0)
      have pre61 : ∀ t, Steps p.tables e below (T60.setTop (mkF m 68 #[.val (.int p0), .val (.int p1), .val (.int p2), .val (.int p3), .val (.int p4), .val (.int c2), .val (.int d2), .val (.int (((p4.toUInt32 >>> ((2 : Int32) &&& 31).toUInt32).toInt32) &&& (3 : Int32))), .val (.ref b55), .val (.ref b58), .unset] [(.int c2), (.int p0)])) t → Steps p.tables e below (s₁.setTop (entryFrame m #[(.int p0), (.int p1), (.int p2), (.int p3), (.int p4)] maxLocals)) t := fun t k => by
        refine pre57 _ ?_
        show Steps p.tables e below (T56.setTop (mkF m 49 #[.val (.int p0), .val (.int p1), .val (.int p2), .val (.int p3), .val (.int p4), .val (.int c2), .val (.int d2), .val (.int (((p4.toUInt32 >>> ((2 : Int32) &&& 31).toUInt32).toInt32) &&& (3 : Int32))), .val (.ref b55), .unset, .unset] [(.int (((p4.toUInt32 >>> ((2 : Int32) &&& 31).toUInt32).toInt32) &&& (3 : Int32)))])) _
        refine XS.ifNo X56.here hx rfl (hb hby at_49) rfl ((if0 _ _).trans (teq hc49).2) ?_
        show Steps p.tables e below (T56.setTop (mkF m 52 #[.val (.int p0), .val (.int p1), .val (.int p2), .val (.int p3), .val (.int p4), .val (.int c2), .val (.int d2), .val (.int (((p4.toUInt32 >>> ((2 : Int32) &&& 31).toUInt32).toInt32) &&& (3 : Int32))), .val (.ref b55), .unset, .unset] [])) _
        refine st58 _ ?_
        show Steps p.tables e below (T58.setTop (mkF m 55 #[.val (.int p0), .val (.int p1), .val (.int p2), .val (.int p3), .val (.int p4), .val (.int c2), .val (.int d2), .val (.int (((p4.toUInt32 >>> ((2 : Int32) &&& 31).toUInt32).toInt32) &&& (3 : Int32))), .val (.ref b55), .unset, .unset] [(.ref b58)])) _
        refine XS.dup X58.here hx rfl (hb hby at_55) rfl rfl ?_
        show Steps p.tables e below (T58.setTop (mkF m 56 #[.val (.int p0), .val (.int p1), .val (.int p2), .val (.int p3), .val (.int p4), .val (.int c2), .val (.int d2), .val (.int (((p4.toUInt32 >>> ((2 : Int32) &&& 31).toUInt32).toInt32) &&& (3 : Int32))), .val (.ref b55), .unset, .unset] [(.ref b58), (.ref b58)])) _
        refine XS.iload X58.here hx rfl (hb hby at_56) rfl ?_
        show Steps p.tables e below (T58.setTop (mkF m 58 #[.val (.int p0), .val (.int p1), .val (.int p2), .val (.int p3), .val (.int p4), .val (.int c2), .val (.int d2), .val (.int (((p4.toUInt32 >>> ((2 : Int32) &&& 31).toUInt32).toInt32) &&& (3 : Int32))), .val (.ref b55), .unset, .unset] [(.int c2), (.ref b58), (.ref b58)])) _
        refine XS.iload X58.here hx rfl (hb hby at_58) rfl ?_
        show Steps p.tables e below (T58.setTop (mkF m 60 #[.val (.int p0), .val (.int p1), .val (.int p2), .val (.int p3), .val (.int p4), .val (.int c2), .val (.int d2), .val (.int (((p4.toUInt32 >>> ((2 : Int32) &&& 31).toUInt32).toInt32) &&& (3 : Int32))), .val (.ref b55), .unset, .unset] [(.int d2), (.int c2), (.ref b58), (.ref b58)])) _
        refine st60.trans ?_
        show Steps p.tables e below (T60.setTop (mkF m 63 #[.val (.int p0), .val (.int p1), .val (.int p2), .val (.int p3), .val (.int p4), .val (.int c2), .val (.int d2), .val (.int (((p4.toUInt32 >>> ((2 : Int32) &&& 31).toUInt32).toInt32) &&& (3 : Int32))), .val (.ref b55), .unset, .unset] [(.ref b58)])) _
        refine XS.astore X60.here hx rfl (hb hby at_63) rfl rfl (l' := #[.val (.int p0), .val (.int p1), .val (.int p2), .val (.int p3), .val (.int p4), .val (.int c2), .val (.int d2), .val (.int (((p4.toUInt32 >>> ((2 : Int32) &&& 31).toUInt32).toInt32) &&& (3 : Int32))), .val (.ref b55), .val (.ref b58), .unset]) rfl ?_
        show Steps p.tables e below (T60.setTop (mkF m 65 #[.val (.int p0), .val (.int p1), .val (.int p2), .val (.int p3), .val (.int p4), .val (.int c2), .val (.int d2), .val (.int (((p4.toUInt32 >>> ((2 : Int32) &&& 31).toUInt32).toInt32) &&& (3 : Int32))), .val (.ref b55), .val (.ref b58), .unset] [])) _
        refine XS.iloadN X60.here hx rfl (hb hby at_65) rfl ?_
        show Steps p.tables e below (T60.setTop (mkF m 66 #[.val (.int p0), .val (.int p1), .val (.int p2), .val (.int p3), .val (.int p4), .val (.int c2), .val (.int d2), .val (.int (((p4.toUInt32 >>> ((2 : Int32) &&& 31).toUInt32).toInt32) &&& (3 : Int32))), .val (.ref b55), .val (.ref b58), .unset] [(.int p0)])) _
        refine XS.iload X60.here hx rfl (hb hby at_66) rfl ?_
        exact k
      by_cases hc68 : p0 = c2
      · have pre62 : ∀ t, Steps p.tables e below (T60.setTop (mkF m 74 #[.val (.int p0), .val (.int p1), .val (.int p2), .val (.int p3), .val (.int p4), .val (.int c2), .val (.int d2), .val (.int (((p4.toUInt32 >>> ((2 : Int32) &&& 31).toUInt32).toInt32) &&& (3 : Int32))), .val (.ref b55), .val (.ref b58), .unset] [(.int d2), (.int p1)])) t → Steps p.tables e below (s₁.setTop (entryFrame m #[(.int p0), (.int p1), (.int p2), (.int p3), (.int p4)] maxLocals)) t := fun t k => by
          refine pre61 _ ?_
          show Steps p.tables e below (T60.setTop (mkF m 68 #[.val (.int p0), .val (.int p1), .val (.int p2), .val (.int p3), .val (.int p4), .val (.int c2), .val (.int d2), .val (.int (((p4.toUInt32 >>> ((2 : Int32) &&& 31).toUInt32).toInt32) &&& (3 : Int32))), .val (.ref b55), .val (.ref b58), .unset] [(.int c2), (.int p0)])) _
          refine XS.icmpNo X60.here hx rfl (hb hby at_68) rfl (teq hc68).2 ?_
          show Steps p.tables e below (T60.setTop (mkF m 71 #[.val (.int p0), .val (.int p1), .val (.int p2), .val (.int p3), .val (.int p4), .val (.int c2), .val (.int d2), .val (.int (((p4.toUInt32 >>> ((2 : Int32) &&& 31).toUInt32).toInt32) &&& (3 : Int32))), .val (.ref b55), .val (.ref b58), .unset] [])) _
          refine XS.iloadN X60.here hx rfl (hb hby at_71) rfl ?_
          show Steps p.tables e below (T60.setTop (mkF m 72 #[.val (.int p0), .val (.int p1), .val (.int p2), .val (.int p3), .val (.int p4), .val (.int c2), .val (.int d2), .val (.int (((p4.toUInt32 >>> ((2 : Int32) &&& 31).toUInt32).toInt32) &&& (3 : Int32))), .val (.ref b55), .val (.ref b58), .unset] [(.int p1)])) _
          refine XS.iload X60.here hx rfl (hb hby at_72) rfl ?_
          exact k
        by_cases hc74 : p1 = d2
        · have Q63 := ((i56_4.ext E58).keep i60_2 (ninS ne_b55_b58 nin0))
          have Q64 := ((i56_5.ext E58).keep i60_2 (ninS ne_b55_b58 nin0))
          have Q66 := ((i56_3.ext E58).keep i60_2)
          obtain ⟨cq65, kq65, q65a, q65b, q65c⟩ := isOf hZ rfl Q66
          obtain ⟨_, _, ⟨T65, L65, k65, n65⟩, -, X65, ⟨Lc65, hQ65, l65, y65, z65⟩, st65⟩ := X60.virtualBack hx (y := (⟨"com/example/dalby/dalby/mesh/Cell", "equals", "(Ljava/lang/Object;)Z"⟩ : MethodName)) (z := (⟨"com/example/dalby/dalby/mesh/Cell", "equals", "(Ljava/lang/Object;)Z"⟩ : MethodName)) hown (mvT hZ (hw _ (List.mem_of_getElem? (i := 13) rfl))) (mvT hZ (hw _ (List.mem_of_getElem? (i := 14) rfl))) (notFace_of_selects (args := #[]) (mvT hZ (hw _ (List.mem_of_getElem? (i := 16) rfl)))) (mvT hZ (hw _ (List.mem_of_getElem? (i := 16) rfl))) (mvT hZ (hw _ (List.mem_of_getElem? (i := 15) rfl))) (by decide) (backOf (W := 0) (rm5_e l Z a0 hw [] b55 b58 p0 p1 c2 d2 T60.heap n0 (Nat.le_trans Z0 K60.1) i60_3 Q63 Q64 i60_4 i60_5) hZ (hw _ (List.mem_of_getElem? (i := 17) rfl)) (hw _ (List.mem_of_getElem? (i := 2) rfl)) (by decide) (by decide)) q65a q65c (g := (mkF m 131 #[.val (.int p0), .val (.int p1), .val (.int p2), .val (.int p3), .val (.int p4), .val (.int c2), .val (.int d2), .val (.int (((p4.toUInt32 >>> ((2 : Int32) &&& 31).toUInt32).toInt32) &&& (3 : Int32))), .val (.ref b55), .val (.ref b58), .val (.int (1 : Int32))] [(.ref b58), (.ref b55)])) rfl (by rw [hml]; rfl) (Steps.refl _) (argsL := [(.ref b58)]) (rest := []) (lenOf own_pd3 rfl) rfl (by show 2 * 0 + _ ≤ _; exact Nat.le_of_eq rfl) (hb hby at_131) (fun _ _ => ⟨rfl, rfl, (by decide : 2 + 0 ≤ _), (by decide : 4 + 0 ≤ _)⟩)
          dsimp only [Pt.U, Pt.locs, Pt.cells, Pt.slots] at X65 l65 y65 z65 st65 hQ65
          subst l65 y65 z65
          obtain ⟨rfl, N65q, e65⟩ := hQ65
          have N65 := Fr.app N60 N65q
          have hc136_67 : (own_f_rm5_e p0 p1 c2 d2) = (1 : Int32) := by unfold own_f_rm5_e; rw [if_pos hc68.symm, if_pos hc74.symm]
          obtain ⟨fs, hr, hrun, hended, hW, hsame⟩ := X65.leave (v := some (.int (1 : Int32))) (fun h => by rw [Bd.returns] at h; cases h)
          refine ⟨_, _, pre62 _ ?_, hrun, hended, _, _, rfl, ?_, ⟨_, rfl⟩, hW, hsame.mono (by decide) (by decide)⟩
          · show Steps p.tables e below (T60.setTop (mkF m 74 #[.val (.int p0), .val (.int p1), .val (.int p2), .val (.int p3), .val (.int p4), .val (.int c2), .val (.int d2), .val (.int (((p4.toUInt32 >>> ((2 : Int32) &&& 31).toUInt32).toInt32) &&& (3 : Int32))), .val (.ref b55), .val (.ref b58), .unset] [(.int d2), (.int p1)])) _
            refine XS.icmpNo X60.here hx rfl (hb hby at_74) rfl (teq hc74).2 ?_
            show Steps p.tables e below (T60.setTop (mkF m 77 #[.val (.int p0), .val (.int p1), .val (.int p2), .val (.int p3), .val (.int p4), .val (.int c2), .val (.int d2), .val (.int (((p4.toUInt32 >>> ((2 : Int32) &&& 31).toUInt32).toInt32) &&& (3 : Int32))), .val (.ref b55), .val (.ref b58), .unset] [])) _
            refine XS.iconst X60.here hx rfl (hb hby at_77) ?_
            show Steps p.tables e below (T60.setTop (mkF m 78 #[.val (.int p0), .val (.int p1), .val (.int p2), .val (.int p3), .val (.int p4), .val (.int c2), .val (.int d2), .val (.int (((p4.toUInt32 >>> ((2 : Int32) &&& 31).toUInt32).toInt32) &&& (3 : Int32))), .val (.ref b55), .val (.ref b58), .unset] [(.int (1 : Int32))])) _
            refine XS.goto X60.here hx rfl (pc0 := 78) (pc' := 82) rfl (hb hby at_78) (by decide) (by decide) ?_
            show Steps p.tables e below (T60.setTop (mkF m 82 #[.val (.int p0), .val (.int p1), .val (.int p2), .val (.int p3), .val (.int p4), .val (.int c2), .val (.int d2), .val (.int (((p4.toUInt32 >>> ((2 : Int32) &&& 31).toUInt32).toInt32) &&& (3 : Int32))), .val (.ref b55), .val (.ref b58), .unset] [(.int (1 : Int32))])) _
            refine XS.istore X60.here hx rfl (hb hby at_82) rfl (l' := #[.val (.int p0), .val (.int p1), .val (.int p2), .val (.int p3), .val (.int p4), .val (.int c2), .val (.int d2), .val (.int (((p4.toUInt32 >>> ((2 : Int32) &&& 31).toUInt32).toInt32) &&& (3 : Int32))), .val (.ref b55), .val (.ref b58), .val (.int (1 : Int32))]) rfl ?_
            show Steps p.tables e below (T60.setTop (mkF m 84 #[.val (.int p0), .val (.int p1), .val (.int p2), .val (.int p3), .val (.int p4), .val (.int c2), .val (.int d2), .val (.int (((p4.toUInt32 >>> ((2 : Int32) &&& 31).toUInt32).toInt32) &&& (3 : Int32))), .val (.ref b55), .val (.ref b58), .val (.int (1 : Int32))] [])) _
            refine XS.goto X60.here hx rfl (pc0 := 84) (pc' := 127) rfl (hb hby at_84) (by decide) (by decide) ?_
            show Steps p.tables e below (T60.setTop (mkF m 127 #[.val (.int p0), .val (.int p1), .val (.int p2), .val (.int p3), .val (.int p4), .val (.int c2), .val (.int d2), .val (.int (((p4.toUInt32 >>> ((2 : Int32) &&& 31).toUInt32).toInt32) &&& (3 : Int32))), .val (.ref b55), .val (.ref b58), .val (.int (1 : Int32))] [])) _
            refine XS.aload X60.here hx rfl (hb hby at_127) rfl rfl ?_
            show Steps p.tables e below (T60.setTop (mkF m 129 #[.val (.int p0), .val (.int p1), .val (.int p2), .val (.int p3), .val (.int p4), .val (.int c2), .val (.int d2), .val (.int (((p4.toUInt32 >>> ((2 : Int32) &&& 31).toUInt32).toInt32) &&& (3 : Int32))), .val (.ref b55), .val (.ref b58), .val (.int (1 : Int32))] [(.ref b55)])) _
            refine XS.aload X60.here hx rfl (hb hby at_129) rfl rfl ?_
            show Steps p.tables e below (T60.setTop (mkF m 131 #[.val (.int p0), .val (.int p1), .val (.int p2), .val (.int p3), .val (.int p4), .val (.int c2), .val (.int d2), .val (.int (((p4.toUInt32 >>> ((2 : Int32) &&& 31).toUInt32).toInt32) &&& (3 : Int32))), .val (.ref b55), .val (.ref b58), .val (.int (1 : Int32))] [(.ref b58), (.ref b55)])) _
            refine st65.trans ?_
            show Steps p.tables e below (T65.setTop (mkF m 134 #[.val (.int p0), .val (.int p1), .val (.int p2), .val (.int p3), .val (.int p4), .val (.int c2), .val (.int d2), .val (.int (((p4.toUInt32 >>> ((2 : Int32) &&& 31).toUInt32).toInt32) &&& (3 : Int32))), .val (.ref b55), .val (.ref b58), .val (.int (1 : Int32))] [(.int (own_f_rm5_e p0 p1 c2 d2))])) _
            refine XS.iload X65.here hx rfl (hb hby at_134) rfl ?_
            show Steps p.tables e below (T65.setTop (mkF m 136 #[.val (.int p0), .val (.int p1), .val (.int p2), .val (.int p3), .val (.int p4), .val (.int c2), .val (.int d2), .val (.int (((p4.toUInt32 >>> ((2 : Int32) &&& 31).toUInt32).toInt32) &&& (3 : Int32))), .val (.ref b55), .val (.ref b58), .val (.int (1 : Int32))] [(.int (1 : Int32)), (.int (own_f_rm5_e p0 p1 c2 d2))])) _
            refine XS.icmpNo X65.here hx rfl (hb hby at_136) rfl (teq hc136_67).2 ?_
            show Steps p.tables e below (T65.setTop (mkF m 139 #[.val (.int p0), .val (.int p1), .val (.int p2), .val (.int p3), .val (.int p4), .val (.int c2), .val (.int d2), .val (.int (((p4.toUInt32 >>> ((2 : Int32) &&& 31).toUInt32).toInt32) &&& (3 : Int32))), .val (.ref b55), .val (.ref b58), .val (.int (1 : Int32))] [])) _
            refine XS.iconst X65.here hx rfl (hb hby at_139) ?_
            show Steps p.tables e below (T65.setTop (mkF m 140 #[.val (.int p0), .val (.int p1), .val (.int p2), .val (.int p3), .val (.int p4), .val (.int c2), .val (.int d2), .val (.int (((p4.toUInt32 >>> ((2 : Int32) &&& 31).toUInt32).toInt32) &&& (3 : Int32))), .val (.ref b55), .val (.ref b58), .val (.int (1 : Int32))] [(.int (1 : Int32))])) _
            refine XS.goto X65.here hx rfl (pc0 := 140) (pc' := 144) rfl (hb hby at_140) (by decide) (by decide) ?_
            show Steps p.tables e below (T65.setTop (mkF m 144 #[.val (.int p0), .val (.int p1), .val (.int p2), .val (.int p3), .val (.int p4), .val (.int c2), .val (.int d2), .val (.int (((p4.toUInt32 >>> ((2 : Int32) &&& 31).toUInt32).toInt32) &&& (3 : Int32))), .val (.ref b55), .val (.ref b58), .val (.int (1 : Int32))] [(.int (1 : Int32))])) _
            exact retN X65 hx (t := .boolean) Bd.returns (by simp) (hb hby at_144) hr
          · show Q0 Z p0 p1 p2 p3 p4 w cl h0 n0 _ T65.heap _
            rw [e65]
            exact ⟨rfl, N65⟩
        · have Q68 := ((i56_4.ext E58).keep i60_2 (ninS ne_b55_b58 nin0))
          have Q69 := ((i56_5.ext E58).keep i60_2 (ninS ne_b55_b58 nin0))
          have Q71 := ((i56_3.ext E58).keep i60_2)
          obtain ⟨cq70, kq70, q70a, q70b, q70c⟩ := isOf hZ rfl Q71
          obtain ⟨_, _, ⟨T70, L70, k70, n70⟩, -, X70, ⟨Lc70, hQ70, l70, y70, z70⟩, st70⟩ := X60.virtualBack hx (y := (⟨"com/example/dalby/dalby/mesh/Cell", "equals", "(Ljava/lang/Object;)Z"⟩ : MethodName)) (z := (⟨"com/example/dalby/dalby/mesh/Cell", "equals", "(Ljava/lang/Object;)Z"⟩ : MethodName)) hown (mvT hZ (hw _ (List.mem_of_getElem? (i := 13) rfl))) (mvT hZ (hw _ (List.mem_of_getElem? (i := 14) rfl))) (notFace_of_selects (args := #[]) (mvT hZ (hw _ (List.mem_of_getElem? (i := 16) rfl)))) (mvT hZ (hw _ (List.mem_of_getElem? (i := 16) rfl))) (mvT hZ (hw _ (List.mem_of_getElem? (i := 15) rfl))) (by decide) (backOf (W := 0) (rm5_e l Z a0 hw [] b55 b58 p0 p1 c2 d2 T60.heap n0 (Nat.le_trans Z0 K60.1) i60_3 Q68 Q69 i60_4 i60_5) hZ (hw _ (List.mem_of_getElem? (i := 17) rfl)) (hw _ (List.mem_of_getElem? (i := 2) rfl)) (by decide) (by decide)) q70a q70c (g := (mkF m 131 #[.val (.int p0), .val (.int p1), .val (.int p2), .val (.int p3), .val (.int p4), .val (.int c2), .val (.int d2), .val (.int (((p4.toUInt32 >>> ((2 : Int32) &&& 31).toUInt32).toInt32) &&& (3 : Int32))), .val (.ref b55), .val (.ref b58), .val (.int (0 : Int32))] [(.ref b58), (.ref b55)])) rfl (by rw [hml]; rfl) (Steps.refl _) (argsL := [(.ref b58)]) (rest := []) (lenOf own_pd3 rfl) rfl (by show 2 * 0 + _ ≤ _; exact Nat.le_of_eq rfl) (hb hby at_131) (fun _ _ => ⟨rfl, rfl, (by decide : 2 + 0 ≤ _), (by decide : 4 + 0 ≤ _)⟩)
          dsimp only [Pt.U, Pt.locs, Pt.cells, Pt.slots] at X70 l70 y70 z70 st70 hQ70
          subst l70 y70 z70
          obtain ⟨rfl, N70q, e70⟩ := hQ70
          have N70 := Fr.app N60 N70q
          have hc136_72 : (own_f_rm5_e p0 p1 c2 d2) = (0 : Int32) := by unfold own_f_rm5_e; rw [if_pos hc68.symm, if_neg (fun q => hc74 q.symm)]
          obtain ⟨fs, hr, hrun, hended, hW, hsame⟩ := X70.leave (v := some (.int (1 : Int32))) (fun h => by rw [Bd.returns] at h; cases h)
          refine ⟨_, _, pre62 _ ?_, hrun, hended, _, _, rfl, ?_, ⟨_, rfl⟩, hW, hsame.mono (by decide) (by decide)⟩
          · show Steps p.tables e below (T60.setTop (mkF m 74 #[.val (.int p0), .val (.int p1), .val (.int p2), .val (.int p3), .val (.int p4), .val (.int c2), .val (.int d2), .val (.int (((p4.toUInt32 >>> ((2 : Int32) &&& 31).toUInt32).toInt32) &&& (3 : Int32))), .val (.ref b55), .val (.ref b58), .unset] [(.int d2), (.int p1)])) _
            refine XS.icmpYes X60.here hx rfl (pc0 := 74) (pc' := 81) rfl (hb hby at_74) rfl (feq hc74).2 (by decide) (by decide) ?_
            show Steps p.tables e below (T60.setTop (mkF m 81 #[.val (.int p0), .val (.int p1), .val (.int p2), .val (.int p3), .val (.int p4), .val (.int c2), .val (.int d2), .val (.int (((p4.toUInt32 >>> ((2 : Int32) &&& 31).toUInt32).toInt32) &&& (3 : Int32))), .val (.ref b55), .val (.ref b58), .unset] [])) _
            refine XS.iconst X60.here hx rfl (hb hby at_81) ?_
            show Steps p.tables e below (T60.setTop (mkF m 82 #[.val (.int p0), .val (.int p1), .val (.int p2), .val (.int p3), .val (.int p4), .val (.int c2), .val (.int d2), .val (.int (((p4.toUInt32 >>> ((2 : Int32) &&& 31).toUInt32).toInt32) &&& (3 : Int32))), .val (.ref b55), .val (.ref b58), .unset] [(.int (0 : Int32))])) _
            refine XS.istore X60.here hx rfl (hb hby at_82) rfl (l' := #[.val (.int p0), .val (.int p1), .val (.int p2), .val (.int p3), .val (.int p4), .val (.int c2), .val (.int d2), .val (.int (((p4.toUInt32 >>> ((2 : Int32) &&& 31).toUInt32).toInt32) &&& (3 : Int32))), .val (.ref b55), .val (.ref b58), .val (.int (0 : Int32))]) rfl ?_
            show Steps p.tables e below (T60.setTop (mkF m 84 #[.val (.int p0), .val (.int p1), .val (.int p2), .val (.int p3), .val (.int p4), .val (.int c2), .val (.int d2), .val (.int (((p4.toUInt32 >>> ((2 : Int32) &&& 31).toUInt32).toInt32) &&& (3 : Int32))), .val (.ref b55), .val (.ref b58), .val (.int (0 : Int32))] [])) _
            refine XS.goto X60.here hx rfl (pc0 := 84) (pc' := 127) rfl (hb hby at_84) (by decide) (by decide) ?_
            show Steps p.tables e below (T60.setTop (mkF m 127 #[.val (.int p0), .val (.int p1), .val (.int p2), .val (.int p3), .val (.int p4), .val (.int c2), .val (.int d2), .val (.int (((p4.toUInt32 >>> ((2 : Int32) &&& 31).toUInt32).toInt32) &&& (3 : Int32))), .val (.ref b55), .val (.ref b58), .val (.int (0 : Int32))] [])) _
            refine XS.aload X60.here hx rfl (hb hby at_127) rfl rfl ?_
            show Steps p.tables e below (T60.setTop (mkF m 129 #[.val (.int p0), .val (.int p1), .val (.int p2), .val (.int p3), .val (.int p4), .val (.int c2), .val (.int d2), .val (.int (((p4.toUInt32 >>> ((2 : Int32) &&& 31).toUInt32).toInt32) &&& (3 : Int32))), .val (.ref b55), .val (.ref b58), .val (.int (0 : Int32))] [(.ref b55)])) _
            refine XS.aload X60.here hx rfl (hb hby at_129) rfl rfl ?_
            show Steps p.tables e below (T60.setTop (mkF m 131 #[.val (.int p0), .val (.int p1), .val (.int p2), .val (.int p3), .val (.int p4), .val (.int c2), .val (.int d2), .val (.int (((p4.toUInt32 >>> ((2 : Int32) &&& 31).toUInt32).toInt32) &&& (3 : Int32))), .val (.ref b55), .val (.ref b58), .val (.int (0 : Int32))] [(.ref b58), (.ref b55)])) _
            refine st70.trans ?_
            show Steps p.tables e below (T70.setTop (mkF m 134 #[.val (.int p0), .val (.int p1), .val (.int p2), .val (.int p3), .val (.int p4), .val (.int c2), .val (.int d2), .val (.int (((p4.toUInt32 >>> ((2 : Int32) &&& 31).toUInt32).toInt32) &&& (3 : Int32))), .val (.ref b55), .val (.ref b58), .val (.int (0 : Int32))] [(.int (own_f_rm5_e p0 p1 c2 d2))])) _
            refine XS.iload X70.here hx rfl (hb hby at_134) rfl ?_
            show Steps p.tables e below (T70.setTop (mkF m 136 #[.val (.int p0), .val (.int p1), .val (.int p2), .val (.int p3), .val (.int p4), .val (.int c2), .val (.int d2), .val (.int (((p4.toUInt32 >>> ((2 : Int32) &&& 31).toUInt32).toInt32) &&& (3 : Int32))), .val (.ref b55), .val (.ref b58), .val (.int (0 : Int32))] [(.int (0 : Int32)), (.int (own_f_rm5_e p0 p1 c2 d2))])) _
            refine XS.icmpNo X70.here hx rfl (hb hby at_136) rfl (teq hc136_72).2 ?_
            show Steps p.tables e below (T70.setTop (mkF m 139 #[.val (.int p0), .val (.int p1), .val (.int p2), .val (.int p3), .val (.int p4), .val (.int c2), .val (.int d2), .val (.int (((p4.toUInt32 >>> ((2 : Int32) &&& 31).toUInt32).toInt32) &&& (3 : Int32))), .val (.ref b55), .val (.ref b58), .val (.int (0 : Int32))] [])) _
            refine XS.iconst X70.here hx rfl (hb hby at_139) ?_
            show Steps p.tables e below (T70.setTop (mkF m 140 #[.val (.int p0), .val (.int p1), .val (.int p2), .val (.int p3), .val (.int p4), .val (.int c2), .val (.int d2), .val (.int (((p4.toUInt32 >>> ((2 : Int32) &&& 31).toUInt32).toInt32) &&& (3 : Int32))), .val (.ref b55), .val (.ref b58), .val (.int (0 : Int32))] [(.int (1 : Int32))])) _
            refine XS.goto X70.here hx rfl (pc0 := 140) (pc' := 144) rfl (hb hby at_140) (by decide) (by decide) ?_
            show Steps p.tables e below (T70.setTop (mkF m 144 #[.val (.int p0), .val (.int p1), .val (.int p2), .val (.int p3), .val (.int p4), .val (.int c2), .val (.int d2), .val (.int (((p4.toUInt32 >>> ((2 : Int32) &&& 31).toUInt32).toInt32) &&& (3 : Int32))), .val (.ref b55), .val (.ref b58), .val (.int (0 : Int32))] [(.int (1 : Int32))])) _
            exact retN X70 hx (t := .boolean) Bd.returns (by simp) (hb hby at_144) hr
          · show Q0 Z p0 p1 p2 p3 p4 w cl h0 n0 _ T70.heap _
            rw [e70]
            exact ⟨rfl, N70⟩
      · have Q73 := ((i56_4.ext E58).keep i60_2 (ninS ne_b55_b58 nin0))
        have Q74 := ((i56_5.ext E58).keep i60_2 (ninS ne_b55_b58 nin0))
        have Q76 := ((i56_3.ext E58).keep i60_2)
        obtain ⟨cq75, kq75, q75a, q75b, q75c⟩ := isOf hZ rfl Q76
        obtain ⟨_, _, ⟨T75, L75, k75, n75⟩, -, X75, ⟨Lc75, hQ75, l75, y75, z75⟩, st75⟩ := X60.virtualBack hx (y := (⟨"com/example/dalby/dalby/mesh/Cell", "equals", "(Ljava/lang/Object;)Z"⟩ : MethodName)) (z := (⟨"com/example/dalby/dalby/mesh/Cell", "equals", "(Ljava/lang/Object;)Z"⟩ : MethodName)) hown (mvT hZ (hw _ (List.mem_of_getElem? (i := 13) rfl))) (mvT hZ (hw _ (List.mem_of_getElem? (i := 14) rfl))) (notFace_of_selects (args := #[]) (mvT hZ (hw _ (List.mem_of_getElem? (i := 16) rfl)))) (mvT hZ (hw _ (List.mem_of_getElem? (i := 16) rfl))) (mvT hZ (hw _ (List.mem_of_getElem? (i := 15) rfl))) (by decide) (backOf (W := 0) (rm5_e l Z a0 hw [] b55 b58 p0 p1 c2 d2 T60.heap n0 (Nat.le_trans Z0 K60.1) i60_3 Q73 Q74 i60_4 i60_5) hZ (hw _ (List.mem_of_getElem? (i := 17) rfl)) (hw _ (List.mem_of_getElem? (i := 2) rfl)) (by decide) (by decide)) q75a q75c (g := (mkF m 131 #[.val (.int p0), .val (.int p1), .val (.int p2), .val (.int p3), .val (.int p4), .val (.int c2), .val (.int d2), .val (.int (((p4.toUInt32 >>> ((2 : Int32) &&& 31).toUInt32).toInt32) &&& (3 : Int32))), .val (.ref b55), .val (.ref b58), .val (.int (0 : Int32))] [(.ref b58), (.ref b55)])) rfl (by rw [hml]; rfl) (Steps.refl _) (argsL := [(.ref b58)]) (rest := []) (lenOf own_pd3 rfl) rfl (by show 2 * 0 + _ ≤ _; exact Nat.le_of_eq rfl) (hb hby at_131) (fun _ _ => ⟨rfl, rfl, (by decide : 2 + 0 ≤ _), (by decide : 4 + 0 ≤ _)⟩)
        dsimp only [Pt.U, Pt.locs, Pt.cells, Pt.slots] at X75 l75 y75 z75 st75 hQ75
        subst l75 y75 z75
        obtain ⟨rfl, N75q, e75⟩ := hQ75
        have N75 := Fr.app N60 N75q
        have hc136_77 : (own_f_rm5_e p0 p1 c2 d2) = (0 : Int32) := by unfold own_f_rm5_e; rw [if_neg (fun q => hc68 q.symm)]
        obtain ⟨fs, hr, hrun, hended, hW, hsame⟩ := X75.leave (v := some (.int (1 : Int32))) (fun h => by rw [Bd.returns] at h; cases h)
        refine ⟨_, _, pre61 _ ?_, hrun, hended, _, _, rfl, ?_, ⟨_, rfl⟩, hW, hsame.mono (by decide) (by decide)⟩
        · show Steps p.tables e below (T60.setTop (mkF m 68 #[.val (.int p0), .val (.int p1), .val (.int p2), .val (.int p3), .val (.int p4), .val (.int c2), .val (.int d2), .val (.int (((p4.toUInt32 >>> ((2 : Int32) &&& 31).toUInt32).toInt32) &&& (3 : Int32))), .val (.ref b55), .val (.ref b58), .unset] [(.int c2), (.int p0)])) _
          refine XS.icmpYes X60.here hx rfl (pc0 := 68) (pc' := 81) rfl (hb hby at_68) rfl (feq hc68).2 (by decide) (by decide) ?_
          show Steps p.tables e below (T60.setTop (mkF m 81 #[.val (.int p0), .val (.int p1), .val (.int p2), .val (.int p3), .val (.int p4), .val (.int c2), .val (.int d2), .val (.int (((p4.toUInt32 >>> ((2 : Int32) &&& 31).toUInt32).toInt32) &&& (3 : Int32))), .val (.ref b55), .val (.ref b58), .unset] [])) _
          refine XS.iconst X60.here hx rfl (hb hby at_81) ?_
          show Steps p.tables e below (T60.setTop (mkF m 82 #[.val (.int p0), .val (.int p1), .val (.int p2), .val (.int p3), .val (.int p4), .val (.int c2), .val (.int d2), .val (.int (((p4.toUInt32 >>> ((2 : Int32) &&& 31).toUInt32).toInt32) &&& (3 : Int32))), .val (.ref b55), .val (.ref b58), .unset] [(.int (0 : Int32))])) _
          refine XS.istore X60.here hx rfl (hb hby at_82) rfl (l' := #[.val (.int p0), .val (.int p1), .val (.int p2), .val (.int p3), .val (.int p4), .val (.int c2), .val (.int d2), .val (.int (((p4.toUInt32 >>> ((2 : Int32) &&& 31).toUInt32).toInt32) &&& (3 : Int32))), .val (.ref b55), .val (.ref b58), .val (.int (0 : Int32))]) rfl ?_
          show Steps p.tables e below (T60.setTop (mkF m 84 #[.val (.int p0), .val (.int p1), .val (.int p2), .val (.int p3), .val (.int p4), .val (.int c2), .val (.int d2), .val (.int (((p4.toUInt32 >>> ((2 : Int32) &&& 31).toUInt32).toInt32) &&& (3 : Int32))), .val (.ref b55), .val (.ref b58), .val (.int (0 : Int32))] [])) _
          refine XS.goto X60.here hx rfl (pc0 := 84) (pc' := 127) rfl (hb hby at_84) (by decide) (by decide) ?_
          show Steps p.tables e below (T60.setTop (mkF m 127 #[.val (.int p0), .val (.int p1), .val (.int p2), .val (.int p3), .val (.int p4), .val (.int c2), .val (.int d2), .val (.int (((p4.toUInt32 >>> ((2 : Int32) &&& 31).toUInt32).toInt32) &&& (3 : Int32))), .val (.ref b55), .val (.ref b58), .val (.int (0 : Int32))] [])) _
          refine XS.aload X60.here hx rfl (hb hby at_127) rfl rfl ?_
          show Steps p.tables e below (T60.setTop (mkF m 129 #[.val (.int p0), .val (.int p1), .val (.int p2), .val (.int p3), .val (.int p4), .val (.int c2), .val (.int d2), .val (.int (((p4.toUInt32 >>> ((2 : Int32) &&& 31).toUInt32).toInt32) &&& (3 : Int32))), .val (.ref b55), .val (.ref b58), .val (.int (0 : Int32))] [(.ref b55)])) _
          refine XS.aload X60.here hx rfl (hb hby at_129) rfl rfl ?_
          show Steps p.tables e below (T60.setTop (mkF m 131 #[.val (.int p0), .val (.int p1), .val (.int p2), .val (.int p3), .val (.int p4), .val (.int c2), .val (.int d2), .val (.int (((p4.toUInt32 >>> ((2 : Int32) &&& 31).toUInt32).toInt32) &&& (3 : Int32))), .val (.ref b55), .val (.ref b58), .val (.int (0 : Int32))] [(.ref b58), (.ref b55)])) _
          refine st75.trans ?_
          show Steps p.tables e below (T75.setTop (mkF m 134 #[.val (.int p0), .val (.int p1), .val (.int p2), .val (.int p3), .val (.int p4), .val (.int c2), .val (.int d2), .val (.int (((p4.toUInt32 >>> ((2 : Int32) &&& 31).toUInt32).toInt32) &&& (3 : Int32))), .val (.ref b55), .val (.ref b58), .val (.int (0 : Int32))] [(.int (own_f_rm5_e p0 p1 c2 d2))])) _
          refine XS.iload X75.here hx rfl (hb hby at_134) rfl ?_
          show Steps p.tables e below (T75.setTop (mkF m 136 #[.val (.int p0), .val (.int p1), .val (.int p2), .val (.int p3), .val (.int p4), .val (.int c2), .val (.int d2), .val (.int (((p4.toUInt32 >>> ((2 : Int32) &&& 31).toUInt32).toInt32) &&& (3 : Int32))), .val (.ref b55), .val (.ref b58), .val (.int (0 : Int32))] [(.int (0 : Int32)), (.int (own_f_rm5_e p0 p1 c2 d2))])) _
          refine XS.icmpNo X75.here hx rfl (hb hby at_136) rfl (teq hc136_77).2 ?_
          show Steps p.tables e below (T75.setTop (mkF m 139 #[.val (.int p0), .val (.int p1), .val (.int p2), .val (.int p3), .val (.int p4), .val (.int c2), .val (.int d2), .val (.int (((p4.toUInt32 >>> ((2 : Int32) &&& 31).toUInt32).toInt32) &&& (3 : Int32))), .val (.ref b55), .val (.ref b58), .val (.int (0 : Int32))] [])) _
          refine XS.iconst X75.here hx rfl (hb hby at_139) ?_
          show Steps p.tables e below (T75.setTop (mkF m 140 #[.val (.int p0), .val (.int p1), .val (.int p2), .val (.int p3), .val (.int p4), .val (.int c2), .val (.int d2), .val (.int (((p4.toUInt32 >>> ((2 : Int32) &&& 31).toUInt32).toInt32) &&& (3 : Int32))), .val (.ref b55), .val (.ref b58), .val (.int (0 : Int32))] [(.int (1 : Int32))])) _
          refine XS.goto X75.here hx rfl (pc0 := 140) (pc' := 144) rfl (hb hby at_140) (by decide) (by decide) ?_
          show Steps p.tables e below (T75.setTop (mkF m 144 #[.val (.int p0), .val (.int p1), .val (.int p2), .val (.int p3), .val (.int p4), .val (.int c2), .val (.int d2), .val (.int (((p4.toUInt32 >>> ((2 : Int32) &&& 31).toUInt32).toInt32) &&& (3 : Int32))), .val (.ref b55), .val (.ref b58), .val (.int (0 : Int32))] [(.int (1 : Int32))])) _
          exact retN X75 hx (t := .boolean) Bd.returns (by simp) (hb hby at_144) hr
        · show Q0 Z p0 p1 p2 p3 p4 w cl h0 n0 _ T75.heap _
          rw [e75]
          exact ⟨rfl, N75⟩
    · have pre78 : ∀ t, Steps p.tables e below (T56.setTop (mkF m 90 #[.val (.int p0), .val (.int p1), .val (.int p2), .val (.int p3), .val (.int p4), .val (.int c2), .val (.int d2), .val (.int (((p4.toUInt32 >>> ((2 : Int32) &&& 31).toUInt32).toInt32) &&& (3 : Int32))), .val (.ref b55), .unset, .unset] [(.int (1 : Int32)), (.int (((p4.toUInt32 >>> ((2 : Int32) &&& 31).toUInt32).toInt32) &&& (3 : Int32)))])) t → Steps p.tables e below (s₁.setTop (entryFrame m #[(.int p0), (.int p1), (.int p2), (.int p3), (.int p4)] maxLocals)) t := fun t k => by
        refine pre57 _ ?_
        show Steps p.tables e below (T56.setTop (mkF m 49 #[.val (.int p0), .val (.int p1), .val (.int p2), .val (.int p3), .val (.int p4), .val (.int c2), .val (.int d2), .val (.int (((p4.toUInt32 >>> ((2 : Int32) &&& 31).toUInt32).toInt32) &&& (3 : Int32))), .val (.ref b55), .unset, .unset] [(.int (((p4.toUInt32 >>> ((2 : Int32) &&& 31).toUInt32).toInt32) &&& (3 : Int32)))])) _
        refine XS.ifYes X56.here hx rfl (pc0 := 49) (pc' := 87) rfl (hb hby at_49) rfl ((if0 _ _).trans (feq hc49).2) (by decide) (by decide) ?_
        show Steps p.tables e below (T56.setTop (mkF m 87 #[.val (.int p0), .val (.int p1), .val (.int p2), .val (.int p3), .val (.int p4), .val (.int c2), .val (.int d2), .val (.int (((p4.toUInt32 >>> ((2 : Int32) &&& 31).toUInt32).toInt32) &&& (3 : Int32))), .val (.ref b55), .unset, .unset] [])) _
        refine XS.iload X56.here hx rfl (hb hby at_87) rfl ?_
        show Steps p.tables e below (T56.setTop (mkF m 89 #[.val (.int p0), .val (.int p1), .val (.int p2), .val (.int p3), .val (.int p4), .val (.int c2), .val (.int d2), .val (.int (((p4.toUInt32 >>> ((2 : Int32) &&& 31).toUInt32).toInt32) &&& (3 : Int32))), .val (.ref b55), .unset, .unset] [(.int (((p4.toUInt32 >>> ((2 : Int32) &&& 31).toUInt32).toInt32) &&& (3 : Int32)))])) _
        refine XS.iconst X56.here hx rfl (hb hby at_89) ?_
        exact k
      by_cases hc90 : (((p4.toUInt32 >>> ((2 : Int32) &&& 31).toUInt32).toInt32) &&& (3 : Int32)) = (1 : Int32)
      · obtain ⟨cq79, kq79, q79a, q79b, q79c⟩ := isOf hZ rfl i56_3
        obtain ⟨_, _, ⟨T79, L79, k79, n79⟩, -, X79, ⟨Lc79, hQ79, l79, y79, z79⟩, st79⟩ := X56.virtualBack hx (y := (⟨"com/example/dalby/dalby/mesh/Cell", "equals", "(Ljava/lang/Object;)Z"⟩ : MethodName)) (z := (⟨"com/example/dalby/dalby/mesh/Cell", "equals", "(Ljava/lang/Object;)Z"⟩ : MethodName)) hown (mvT hZ (hw _ (List.mem_of_getElem? (i := 13) rfl))) (mvT hZ (hw _ (List.mem_of_getElem? (i := 14) rfl))) (notFace_of_selects (args := #[]) (mvT hZ (hw _ (List.mem_of_getElem? (i := 16) rfl)))) (mvT hZ (hw _ (List.mem_of_getElem? (i := 16) rfl))) (mvT hZ (hw _ (List.mem_of_getElem? (i := 15) rfl))) (by decide) (backOf (W := 0) (rm5_s l Z a0 hw [] b55 p0 p1 T56.heap n0 (Nat.le_trans Z0 K56.1) i56_3 i56_4 i56_5) hZ (hw _ (List.mem_of_getElem? (i := 17) rfl)) (hw _ (List.mem_of_getElem? (i := 2) rfl)) (by decide) (by decide)) q79a q79c (g := (mkF m 131 #[.val (.int p0), .val (.int p1), .val (.int p2), .val (.int p3), .val (.int p4), .val (.int c2), .val (.int d2), .val (.int (((p4.toUInt32 >>> ((2 : Int32) &&& 31).toUInt32).toInt32) &&& (3 : Int32))), .val (.ref b55), .val (.ref b55), .val (.int (1 : Int32))] [(.ref b55), (.ref b55)])) rfl (by rw [hml]; rfl) (Steps.refl _) (argsL := [(.ref b55)]) (rest := []) (lenOf own_pd3 rfl) rfl (by show 2 * 0 + _ ≤ _; exact Nat.le_of_eq rfl) (hb hby at_131) (fun _ _ => ⟨rfl, rfl, (by decide : 1 + 0 ≤ _), (by decide : 2 + 0 ≤ _)⟩)
        dsimp only [Pt.U, Pt.locs, Pt.cells, Pt.slots] at X79 l79 y79 z79 st79 hQ79
        subst l79 y79 z79
        obtain ⟨rfl, N79q, e79⟩ := hQ79
        have N79 := Fr.app N56 N79q
        obtain ⟨fs, hr, hrun, hended, hW, hsame⟩ := X79.leave (v := some (.int (1 : Int32))) (fun h => by rw [Bd.returns] at h; cases h)
        refine ⟨_, _, pre78 _ ?_, hrun, hended, _, _, rfl, ?_, ⟨_, rfl⟩, hW, hsame.mono (by decide) (by decide)⟩
        · show Steps p.tables e below (T56.setTop (mkF m 90 #[.val (.int p0), .val (.int p1), .val (.int p2), .val (.int p3), .val (.int p4), .val (.int c2), .val (.int d2), .val (.int (((p4.toUInt32 >>> ((2 : Int32) &&& 31).toUInt32).toInt32) &&& (3 : Int32))), .val (.ref b55), .unset, .unset] [(.int (1 : Int32)), (.int (((p4.toUInt32 >>> ((2 : Int32) &&& 31).toUInt32).toInt32) &&& (3 : Int32)))])) _
          refine XS.icmpNo X56.here hx rfl (hb hby at_90) rfl (teq hc90).2 ?_
          show Steps p.tables e below (T56.setTop (mkF m 93 #[.val (.int p0), .val (.int p1), .val (.int p2), .val (.int p3), .val (.int p4), .val (.int c2), .val (.int d2), .val (.int (((p4.toUInt32 >>> ((2 : Int32) &&& 31).toUInt32).toInt32) &&& (3 : Int32))), .val (.ref b55), .unset, .unset] [])) _
          refine XS.aload X56.here hx rfl (hb hby at_93) rfl rfl ?_
          show Steps p.tables e below (T56.setTop (mkF m 95 #[.val (.int p0), .val (.int p1), .val (.int p2), .val (.int p3), .val (.int p4), .val (.int c2), .val (.int d2), .val (.int (((p4.toUInt32 >>> ((2 : Int32) &&& 31).toUInt32).toInt32) &&& (3 : Int32))), .val (.ref b55), .unset, .unset] [(.ref b55)])) _
          refine XS.astore X56.here hx rfl (hb hby at_95) rfl rfl (l' := #[.val (.int p0), .val (.int p1), .val (.int p2), .val (.int p3), .val (.int p4), .val (.int c2), .val (.int d2), .val (.int (((p4.toUInt32 >>> ((2 : Int32) &&& 31).toUInt32).toInt32) &&& (3 : Int32))), .val (.ref b55), .val (.ref b55), .unset]) rfl ?_
          show Steps p.tables e below (T56.setTop (mkF m 97 #[.val (.int p0), .val (.int p1), .val (.int p2), .val (.int p3), .val (.int p4), .val (.int c2), .val (.int d2), .val (.int (((p4.toUInt32 >>> ((2 : Int32) &&& 31).toUInt32).toInt32) &&& (3 : Int32))), .val (.ref b55), .val (.ref b55), .unset] [])) _
          refine XS.iconst X56.here hx rfl (hb hby at_97) ?_
          show Steps p.tables e below (T56.setTop (mkF m 98 #[.val (.int p0), .val (.int p1), .val (.int p2), .val (.int p3), .val (.int p4), .val (.int c2), .val (.int d2), .val (.int (((p4.toUInt32 >>> ((2 : Int32) &&& 31).toUInt32).toInt32) &&& (3 : Int32))), .val (.ref b55), .val (.ref b55), .unset] [(.int (1 : Int32))])) _
          refine XS.istore X56.here hx rfl (hb hby at_98) rfl (l' := #[.val (.int p0), .val (.int p1), .val (.int p2), .val (.int p3), .val (.int p4), .val (.int c2), .val (.int d2), .val (.int (((p4.toUInt32 >>> ((2 : Int32) &&& 31).toUInt32).toInt32) &&& (3 : Int32))), .val (.ref b55), .val (.ref b55), .val (.int (1 : Int32))]) rfl ?_
          show Steps p.tables e below (T56.setTop (mkF m 100 #[.val (.int p0), .val (.int p1), .val (.int p2), .val (.int p3), .val (.int p4), .val (.int c2), .val (.int d2), .val (.int (((p4.toUInt32 >>> ((2 : Int32) &&& 31).toUInt32).toInt32) &&& (3 : Int32))), .val (.ref b55), .val (.ref b55), .val (.int (1 : Int32))] [])) _
          refine XS.goto X56.here hx rfl (pc0 := 100) (pc' := 127) rfl (hb hby at_100) (by decide) (by decide) ?_
          show Steps p.tables e below (T56.setTop (mkF m 127 #[.val (.int p0), .val (.int p1), .val (.int p2), .val (.int p3), .val (.int p4), .val (.int c2), .val (.int d2), .val (.int (((p4.toUInt32 >>> ((2 : Int32) &&& 31).toUInt32).toInt32) &&& (3 : Int32))), .val (.ref b55), .val (.ref b55), .val (.int (1 : Int32))] [])) _
          refine XS.aload X56.here hx rfl (hb hby at_127) rfl rfl ?_
          show Steps p.tables e below (T56.setTop (mkF m 129 #[.val (.int p0), .val (.int p1), .val (.int p2), .val (.int p3), .val (.int p4), .val (.int c2), .val (.int d2), .val (.int (((p4.toUInt32 >>> ((2 : Int32) &&& 31).toUInt32).toInt32) &&& (3 : Int32))), .val (.ref b55), .val (.ref b55), .val (.int (1 : Int32))] [(.ref b55)])) _
          refine XS.aload X56.here hx rfl (hb hby at_129) rfl rfl ?_
          show Steps p.tables e below (T56.setTop (mkF m 131 #[.val (.int p0), .val (.int p1), .val (.int p2), .val (.int p3), .val (.int p4), .val (.int c2), .val (.int d2), .val (.int (((p4.toUInt32 >>> ((2 : Int32) &&& 31).toUInt32).toInt32) &&& (3 : Int32))), .val (.ref b55), .val (.ref b55), .val (.int (1 : Int32))] [(.ref b55), (.ref b55)])) _
          refine st79.trans ?_
          show Steps p.tables e below (T79.setTop (mkF m 134 #[.val (.int p0), .val (.int p1), .val (.int p2), .val (.int p3), .val (.int p4), .val (.int c2), .val (.int d2), .val (.int (((p4.toUInt32 >>> ((2 : Int32) &&& 31).toUInt32).toInt32) &&& (3 : Int32))), .val (.ref b55), .val (.ref b55), .val (.int (1 : Int32))] [(.int (1 : Int32))])) _
          refine XS.iload X79.here hx rfl (hb hby at_134) rfl ?_
          show Steps p.tables e below (T79.setTop (mkF m 136 #[.val (.int p0), .val (.int p1), .val (.int p2), .val (.int p3), .val (.int p4), .val (.int c2), .val (.int d2), .val (.int (((p4.toUInt32 >>> ((2 : Int32) &&& 31).toUInt32).toInt32) &&& (3 : Int32))), .val (.ref b55), .val (.ref b55), .val (.int (1 : Int32))] [(.int (1 : Int32)), (.int (1 : Int32))])) _
          refine XS.icmpNo X79.here hx rfl (hb hby at_136) rfl (teq (by decide : ((1 : Int32) = (1 : Int32)))).2 ?_
          show Steps p.tables e below (T79.setTop (mkF m 139 #[.val (.int p0), .val (.int p1), .val (.int p2), .val (.int p3), .val (.int p4), .val (.int c2), .val (.int d2), .val (.int (((p4.toUInt32 >>> ((2 : Int32) &&& 31).toUInt32).toInt32) &&& (3 : Int32))), .val (.ref b55), .val (.ref b55), .val (.int (1 : Int32))] [])) _
          refine XS.iconst X79.here hx rfl (hb hby at_139) ?_
          show Steps p.tables e below (T79.setTop (mkF m 140 #[.val (.int p0), .val (.int p1), .val (.int p2), .val (.int p3), .val (.int p4), .val (.int c2), .val (.int d2), .val (.int (((p4.toUInt32 >>> ((2 : Int32) &&& 31).toUInt32).toInt32) &&& (3 : Int32))), .val (.ref b55), .val (.ref b55), .val (.int (1 : Int32))] [(.int (1 : Int32))])) _
          refine XS.goto X79.here hx rfl (pc0 := 140) (pc' := 144) rfl (hb hby at_140) (by decide) (by decide) ?_
          show Steps p.tables e below (T79.setTop (mkF m 144 #[.val (.int p0), .val (.int p1), .val (.int p2), .val (.int p3), .val (.int p4), .val (.int c2), .val (.int d2), .val (.int (((p4.toUInt32 >>> ((2 : Int32) &&& 31).toUInt32).toInt32) &&& (3 : Int32))), .val (.ref b55), .val (.ref b55), .val (.int (1 : Int32))] [(.int (1 : Int32))])) _
          exact retN X79 hx (t := .boolean) Bd.returns (by simp) (hb hby at_144) hr
        · show Q0 Z p0 p1 p2 p3 p4 w cl h0 n0 _ T79.heap _
          rw [e79]
          exact ⟨rfl, N79⟩
      · have pre80 : ∀ t, Steps p.tables e below (T56.setTop (mkF m 106 #[.val (.int p0), .val (.int p1), .val (.int p2), .val (.int p3), .val (.int p4), .val (.int c2), .val (.int d2), .val (.int (((p4.toUInt32 >>> ((2 : Int32) &&& 31).toUInt32).toInt32) &&& (3 : Int32))), .val (.ref b55), .unset, .unset] [(.int (2 : Int32)), (.int (((p4.toUInt32 >>> ((2 : Int32) &&& 31).toUInt32).toInt32) &&& (3 : Int32)))])) t → Steps p.tables e below (s₁.setTop (entryFrame m #[(.int p0), (.int p1), (.int p2), (.int p3), (.int p4)] maxLocals)) t := fun t k => by
          refine pre78 _ ?_
          show Steps p.tables e below (T56.setTop (mkF m 90 #[.val (.int p0), .val (.int p1), .val (.int p2), .val (.int p3), .val (.int p4), .val (.int c2), .val (.int d2), .val (.int (((p4.toUInt32 >>> ((2 : Int32) &&& 31).toUInt32).toInt32) &&& (3 : Int32))), .val (.ref b55), .unset, .unset] [(.int (1 : Int32)), (.int (((p4.toUInt32 >>> ((2 : Int32) &&& 31).toUInt32).toInt32) &&& (3 : Int32)))])) _
          refine XS.icmpYes X56.here hx rfl (pc0 := 90) (pc' := 103) rfl (hb hby at_90) rfl (feq hc90).2 (by decide) (by decide) ?_
          show Steps p.tables e below (T56.setTop (mkF m 103 #[.val (.int p0), .val (.int p1), .val (.int p2), .val (.int p3), .val (.int p4), .val (.int c2), .val (.int d2), .val (.int (((p4.toUInt32 >>> ((2 : Int32) &&& 31).toUInt32).toInt32) &&& (3 : Int32))), .val (.ref b55), .unset, .unset] [])) _
          refine XS.iload X56.here hx rfl (hb hby at_103) rfl ?_
          show Steps p.tables e below (T56.setTop (mkF m 105 #[.val (.int p0), .val (.int p1), .val (.int p2), .val (.int p3), .val (.int p4), .val (.int c2), .val (.int d2), .val (.int (((p4.toUInt32 >>> ((2 : Int32) &&& 31).toUInt32).toInt32) &&& (3 : Int32))), .val (.ref b55), .unset, .unset] [(.int (((p4.toUInt32 >>> ((2 : Int32) &&& 31).toUInt32).toInt32) &&& (3 : Int32)))])) _
          refine XS.iconst X56.here hx rfl (hb hby at_105) ?_
          exact k
        by_cases hc106 : (((p4.toUInt32 >>> ((2 : Int32) &&& 31).toUInt32).toInt32) &&& (3 : Int32)) = (2 : Int32)
        · obtain ⟨cq81, kq81, q81a, q81b, q81c⟩ := isOf hZ rfl i56_3
          obtain ⟨_, _, ⟨T81, L81, k81, n81⟩, -, X81, ⟨Lc81, hQ81, l81, y81, z81⟩, st81⟩ := X56.virtualBack hx (y := (⟨"com/example/dalby/dalby/mesh/Cell", "equals", "(Ljava/lang/Object;)Z"⟩ : MethodName)) (z := (⟨"com/example/dalby/dalby/mesh/Cell", "equals", "(Ljava/lang/Object;)Z"⟩ : MethodName)) hown (mvT hZ (hw _ (List.mem_of_getElem? (i := 13) rfl))) (mvT hZ (hw _ (List.mem_of_getElem? (i := 14) rfl))) (notFace_of_selects (args := #[]) (mvT hZ (hw _ (List.mem_of_getElem? (i := 16) rfl)))) (mvT hZ (hw _ (List.mem_of_getElem? (i := 16) rfl))) (mvT hZ (hw _ (List.mem_of_getElem? (i := 15) rfl))) (by decide) (backOf (W := 0) (rm5_n l Z a0 hw [] b55 T56.heap n0 (Nat.le_trans Z0 K56.1) ) hZ (hw _ (List.mem_of_getElem? (i := 17) rfl)) (hw _ (List.mem_of_getElem? (i := 2) rfl)) (by decide) (by decide)) q81a q81c (g := (mkF m 131 #[.val (.int p0), .val (.int p1), .val (.int p2), .val (.int p3), .val (.int p4), .val (.int c2), .val (.int d2), .val (.int (((p4.toUInt32 >>> ((2 : Int32) &&& 31).toUInt32).toInt32) &&& (3 : Int32))), .val (.ref b55), .val .null, .val (.int (0 : Int32))] [.null, (.ref b55)])) rfl (by rw [hml]; rfl) (Steps.refl _) (argsL := [.null]) (rest := []) (lenOf own_pd3 rfl) rfl (by show 2 * 0 + _ ≤ _; exact Nat.le_of_eq rfl) (hb hby at_131) (fun _ _ => ⟨rfl, rfl, (by decide : 1 + 0 ≤ _), (by decide : 2 + 0 ≤ _)⟩)
          dsimp only [Pt.U, Pt.locs, Pt.cells, Pt.slots] at X81 l81 y81 z81 st81 hQ81
          subst l81 y81 z81
          obtain ⟨rfl, N81q, e81⟩ := hQ81
          have N81 := Fr.app N56 N81q
          obtain ⟨fs, hr, hrun, hended, hW, hsame⟩ := X81.leave (v := some (.int (1 : Int32))) (fun h => by rw [Bd.returns] at h; cases h)
          refine ⟨_, _, pre80 _ ?_, hrun, hended, _, _, rfl, ?_, ⟨_, rfl⟩, hW, hsame.mono (by decide) (by decide)⟩
          · show Steps p.tables e below (T56.setTop (mkF m 106 #[.val (.int p0), .val (.int p1), .val (.int p2), .val (.int p3), .val (.int p4), .val (.int c2), .val (.int d2), .val (.int (((p4.toUInt32 >>> ((2 : Int32) &&& 31).toUInt32).toInt32) &&& (3 : Int32))), .val (.ref b55), .unset, .unset] [(.int (2 : Int32)), (.int (((p4.toUInt32 >>> ((2 : Int32) &&& 31).toUInt32).toInt32) &&& (3 : Int32)))])) _
            refine XS.icmpNo X56.here hx rfl (hb hby at_106) rfl (teq hc106).2 ?_
            show Steps p.tables e below (T56.setTop (mkF m 109 #[.val (.int p0), .val (.int p1), .val (.int p2), .val (.int p3), .val (.int p4), .val (.int c2), .val (.int d2), .val (.int (((p4.toUInt32 >>> ((2 : Int32) &&& 31).toUInt32).toInt32) &&& (3 : Int32))), .val (.ref b55), .unset, .unset] [])) _
            refine XS.aconstNull X56.here hx rfl (hb hby at_109) ?_
            show Steps p.tables e below (T56.setTop (mkF m 110 #[.val (.int p0), .val (.int p1), .val (.int p2), .val (.int p3), .val (.int p4), .val (.int c2), .val (.int d2), .val (.int (((p4.toUInt32 >>> ((2 : Int32) &&& 31).toUInt32).toInt32) &&& (3 : Int32))), .val (.ref b55), .unset, .unset] [.null])) _
            refine XS.astore X56.here hx rfl (hb hby at_110) rfl rfl (l' := #[.val (.int p0), .val (.int p1), .val (.int p2), .val (.int p3), .val (.int p4), .val (.int c2), .val (.int d2), .val (.int (((p4.toUInt32 >>> ((2 : Int32) &&& 31).toUInt32).toInt32) &&& (3 : Int32))), .val (.ref b55), .val .null, .unset]) rfl ?_
            show Steps p.tables e below (T56.setTop (mkF m 112 #[.val (.int p0), .val (.int p1), .val (.int p2), .val (.int p3), .val (.int p4), .val (.int c2), .val (.int d2), .val (.int (((p4.toUInt32 >>> ((2 : Int32) &&& 31).toUInt32).toInt32) &&& (3 : Int32))), .val (.ref b55), .val .null, .unset] [])) _
            refine XS.iconst X56.here hx rfl (hb hby at_112) ?_
            show Steps p.tables e below (T56.setTop (mkF m 113 #[.val (.int p0), .val (.int p1), .val (.int p2), .val (.int p3), .val (.int p4), .val (.int c2), .val (.int d2), .val (.int (((p4.toUInt32 >>> ((2 : Int32) &&& 31).toUInt32).toInt32) &&& (3 : Int32))), .val (.ref b55), .val .null, .unset] [(.int (0 : Int32))])) _
            refine XS.istore X56.here hx rfl (hb hby at_113) rfl (l' := #[.val (.int p0), .val (.int p1), .val (.int p2), .val (.int p3), .val (.int p4), .val (.int c2), .val (.int d2), .val (.int (((p4.toUInt32 >>> ((2 : Int32) &&& 31).toUInt32).toInt32) &&& (3 : Int32))), .val (.ref b55), .val .null, .val (.int (0 : Int32))]) rfl ?_
            show Steps p.tables e below (T56.setTop (mkF m 115 #[.val (.int p0), .val (.int p1), .val (.int p2), .val (.int p3), .val (.int p4), .val (.int c2), .val (.int d2), .val (.int (((p4.toUInt32 >>> ((2 : Int32) &&& 31).toUInt32).toInt32) &&& (3 : Int32))), .val (.ref b55), .val .null, .val (.int (0 : Int32))] [])) _
            refine XS.goto X56.here hx rfl (pc0 := 115) (pc' := 127) rfl (hb hby at_115) (by decide) (by decide) ?_
            show Steps p.tables e below (T56.setTop (mkF m 127 #[.val (.int p0), .val (.int p1), .val (.int p2), .val (.int p3), .val (.int p4), .val (.int c2), .val (.int d2), .val (.int (((p4.toUInt32 >>> ((2 : Int32) &&& 31).toUInt32).toInt32) &&& (3 : Int32))), .val (.ref b55), .val .null, .val (.int (0 : Int32))] [])) _
            refine XS.aload X56.here hx rfl (hb hby at_127) rfl rfl ?_
            show Steps p.tables e below (T56.setTop (mkF m 129 #[.val (.int p0), .val (.int p1), .val (.int p2), .val (.int p3), .val (.int p4), .val (.int c2), .val (.int d2), .val (.int (((p4.toUInt32 >>> ((2 : Int32) &&& 31).toUInt32).toInt32) &&& (3 : Int32))), .val (.ref b55), .val .null, .val (.int (0 : Int32))] [(.ref b55)])) _
            refine XS.aload X56.here hx rfl (hb hby at_129) rfl rfl ?_
            show Steps p.tables e below (T56.setTop (mkF m 131 #[.val (.int p0), .val (.int p1), .val (.int p2), .val (.int p3), .val (.int p4), .val (.int c2), .val (.int d2), .val (.int (((p4.toUInt32 >>> ((2 : Int32) &&& 31).toUInt32).toInt32) &&& (3 : Int32))), .val (.ref b55), .val .null, .val (.int (0 : Int32))] [.null, (.ref b55)])) _
            refine st81.trans ?_
            show Steps p.tables e below (T81.setTop (mkF m 134 #[.val (.int p0), .val (.int p1), .val (.int p2), .val (.int p3), .val (.int p4), .val (.int c2), .val (.int d2), .val (.int (((p4.toUInt32 >>> ((2 : Int32) &&& 31).toUInt32).toInt32) &&& (3 : Int32))), .val (.ref b55), .val .null, .val (.int (0 : Int32))] [(.int (0 : Int32))])) _
            refine XS.iload X81.here hx rfl (hb hby at_134) rfl ?_
            show Steps p.tables e below (T81.setTop (mkF m 136 #[.val (.int p0), .val (.int p1), .val (.int p2), .val (.int p3), .val (.int p4), .val (.int c2), .val (.int d2), .val (.int (((p4.toUInt32 >>> ((2 : Int32) &&& 31).toUInt32).toInt32) &&& (3 : Int32))), .val (.ref b55), .val .null, .val (.int (0 : Int32))] [(.int (0 : Int32)), (.int (0 : Int32))])) _
            refine XS.icmpNo X81.here hx rfl (hb hby at_136) rfl (teq (by decide : ((0 : Int32) = (0 : Int32)))).2 ?_
            show Steps p.tables e below (T81.setTop (mkF m 139 #[.val (.int p0), .val (.int p1), .val (.int p2), .val (.int p3), .val (.int p4), .val (.int c2), .val (.int d2), .val (.int (((p4.toUInt32 >>> ((2 : Int32) &&& 31).toUInt32).toInt32) &&& (3 : Int32))), .val (.ref b55), .val .null, .val (.int (0 : Int32))] [])) _
            refine XS.iconst X81.here hx rfl (hb hby at_139) ?_
            show Steps p.tables e below (T81.setTop (mkF m 140 #[.val (.int p0), .val (.int p1), .val (.int p2), .val (.int p3), .val (.int p4), .val (.int c2), .val (.int d2), .val (.int (((p4.toUInt32 >>> ((2 : Int32) &&& 31).toUInt32).toInt32) &&& (3 : Int32))), .val (.ref b55), .val .null, .val (.int (0 : Int32))] [(.int (1 : Int32))])) _
            refine XS.goto X81.here hx rfl (pc0 := 140) (pc' := 144) rfl (hb hby at_140) (by decide) (by decide) ?_
            show Steps p.tables e below (T81.setTop (mkF m 144 #[.val (.int p0), .val (.int p1), .val (.int p2), .val (.int p3), .val (.int p4), .val (.int c2), .val (.int d2), .val (.int (((p4.toUInt32 >>> ((2 : Int32) &&& 31).toUInt32).toInt32) &&& (3 : Int32))), .val (.ref b55), .val .null, .val (.int (0 : Int32))] [(.int (1 : Int32))])) _
            exact retN X81 hx (t := .boolean) Bd.returns (by simp) (hb hby at_144) hr
          · show Q0 Z p0 p1 p2 p3 p4 w cl h0 n0 _ T81.heap _
            rw [e81]
            exact ⟨rfl, N81⟩
        · have pre82 : ∀ t, Steps p.tables e below (T56.setTop (mkF m 118 #[.val (.int p0), .val (.int p1), .val (.int p2), .val (.int p3), .val (.int p4), .val (.int c2), .val (.int d2), .val (.int (((p4.toUInt32 >>> ((2 : Int32) &&& 31).toUInt32).toInt32) &&& (3 : Int32))), .val (.ref b55), .unset, .unset] [])) t → Steps p.tables e below (s₁.setTop (entryFrame m #[(.int p0), (.int p1), (.int p2), (.int p3), (.int p4)] maxLocals)) t := fun t k => by
            refine pre80 _ ?_
            show Steps p.tables e below (T56.setTop (mkF m 106 #[.val (.int p0), .val (.int p1), .val (.int p2), .val (.int p3), .val (.int p4), .val (.int c2), .val (.int d2), .val (.int (((p4.toUInt32 >>> ((2 : Int32) &&& 31).toUInt32).toInt32) &&& (3 : Int32))), .val (.ref b55), .unset, .unset] [(.int (2 : Int32)), (.int (((p4.toUInt32 >>> ((2 : Int32) &&& 31).toUInt32).toInt32) &&& (3 : Int32)))])) _
            refine XS.icmpYes X56.here hx rfl (pc0 := 106) (pc' := 118) rfl (hb hby at_106) rfl (feq hc106).2 (by decide) (by decide) ?_
            exact k
          by_cases hlo : p0 < (-128 : Int32)
          · obtain ⟨_, _, ⟨T83, L83, k83, n83⟩, -, X83, ⟨Lc83, hQ83, l83, y83, z83⟩, st83⟩ := Jvm.LawKit.callS X56 hx (y := (⟨"java/lang/Integer", "valueOf", "(I)Ljava/lang/Integer;"⟩ : MethodName)) hown (mvT hZ (hw _ (List.mem_of_getElem? (i := 20) rfl))) (mvT hZ (hw _ (List.mem_of_getElem? (i := 21) rfl))) (mvT hZ (hw _ (List.mem_of_getElem? (i := 22) rfl))) (mvT hZ (hw _ (List.mem_of_getElem? (i := 23) rfl))) (by decide) (backOf (W := 0) (rm4_lo l Z a0 hw [] p0 T56.heap n0 (Nat.le_trans Z0 K56.1) hlo) hZ (hw _ (List.mem_of_getElem? (i := 23) rfl)) (hw _ (List.mem_of_getElem? (i := 22) rfl)) (by decide) (by decide)) (g := (mkF m 119 #[.val (.int p0), .val (.int p1), .val (.int p2), .val (.int p3), .val (.int p4), .val (.int c2), .val (.int d2), .val (.int (((p4.toUInt32 >>> ((2 : Int32) &&& 31).toUInt32).toInt32) &&& (3 : Int32))), .val (.ref b55), .unset, .unset] [(.int p0)])) rfl (by rw [hml]; rfl) (argsL := [(.int p0)]) (rest := []) (lenOf own_pd4 rfl) rfl (by show 2 * 0 + _ ≤ _; exact Nat.le_of_eq rfl) (hb hby at_119) (fun _ _ => ⟨rfl, rfl, (by decide : 1 + 1 ≤ _), (by decide : 2 + 1 ≤ _)⟩)
            dsimp only [Pt.U, Pt.locs, Pt.cells, Pt.slots] at X83 l83 y83 z83 st83 hQ83
            subst l83 y83 z83
            obtain ⟨r_83, rfl, N83q, i83_3, i83_4⟩ := hQ83
            have N83 := Fr.app N56 N83q
            have K83 := K56.trans i83_3 all0
            have Q85 := (i56_3.keep i83_3)
            obtain ⟨cq84, kq84, q84a, q84b, q84c⟩ := isOf hZ rfl Q85
            obtain ⟨_, _, ⟨T84, L84, k84, n84⟩, -, X84, ⟨Lc84, hQ84, l84, y84, z84⟩, st84⟩ := X83.virtualBack hx (y := (⟨"com/example/dalby/dalby/mesh/Cell", "equals", "(Ljava/lang/Object;)Z"⟩ : MethodName)) (z := (⟨"com/example/dalby/dalby/mesh/Cell", "equals", "(Ljava/lang/Object;)Z"⟩ : MethodName)) hown (mvT hZ (hw _ (List.mem_of_getElem? (i := 13) rfl))) (mvT hZ (hw _ (List.mem_of_getElem? (i := 14) rfl))) (notFace_of_selects (args := #[]) (mvT hZ (hw _ (List.mem_of_getElem? (i := 16) rfl)))) (mvT hZ (hw _ (List.mem_of_getElem? (i := 16) rfl))) (mvT hZ (hw _ (List.mem_of_getElem? (i := 15) rfl))) (by decide) (backOf (W := 0) (rm5_i l Z a0 hw [] b55 r_83 T83.heap n0 (Nat.le_trans Z0 K83.1) i83_4) hZ (hw _ (List.mem_of_getElem? (i := 17) rfl)) (hw _ (List.mem_of_getElem? (i := 2) rfl)) (by decide) (by decide)) q84a q84c (g := (mkF m 131 #[.val (.int p0), .val (.int p1), .val (.int p2), .val (.int p3), .val (.int p4), .val (.int c2), .val (.int d2), .val (.int (((p4.toUInt32 >>> ((2 : Int32) &&& 31).toUInt32).toInt32) &&& (3 : Int32))), .val (.ref b55), .val (.ref r_83), .val (.int (0 : Int32))] [(.ref r_83), (.ref b55)])) rfl (by rw [hml]; rfl) (Steps.refl _) (argsL := [(.ref r_83)]) (rest := []) (lenOf own_pd3 rfl) rfl (by show 2 * 0 + _ ≤ _; exact Nat.le_of_eq rfl) (hb hby at_131) (fun _ _ => ⟨rfl, rfl, (by decide : 2 + 0 ≤ _), (by decide : 3 + 0 ≤ _)⟩)
            dsimp only [Pt.U, Pt.locs, Pt.cells, Pt.slots] at X84 l84 y84 z84 st84 hQ84
            subst l84 y84 z84
            obtain ⟨rfl, N84q, e84⟩ := hQ84
            have N84 := Fr.app N83 N84q
            obtain ⟨fs, hr, hrun, hended, hW, hsame⟩ := X84.leave (v := some (.int (1 : Int32))) (fun h => by rw [Bd.returns] at h; cases h)
            refine ⟨_, _, pre82 _ ?_, hrun, hended, _, _, rfl, ?_, ⟨_, rfl⟩, hW, hsame.mono (by decide) (by decide)⟩
            · show Steps p.tables e below (T56.setTop (mkF m 118 #[.val (.int p0), .val (.int p1), .val (.int p2), .val (.int p3), .val (.int p4), .val (.int c2), .val (.int d2), .val (.int (((p4.toUInt32 >>> ((2 : Int32) &&& 31).toUInt32).toInt32) &&& (3 : Int32))), .val (.ref b55), .unset, .unset] [])) _
              refine XS.iloadN X56.here hx rfl (hb hby at_118) rfl ?_
              show Steps p.tables e below (T56.setTop (mkF m 119 #[.val (.int p0), .val (.int p1), .val (.int p2), .val (.int p3), .val (.int p4), .val (.int c2), .val (.int d2), .val (.int (((p4.toUInt32 >>> ((2 : Int32) &&& 31).toUInt32).toInt32) &&& (3 : Int32))), .val (.ref b55), .unset, .unset] [(.int p0)])) _
              refine st83 _ ?_
              show Steps p.tables e below (T83.setTop (mkF m 122 #[.val (.int p0), .val (.int p1), .val (.int p2), .val (.int p3), .val (.int p4), .val (.int c2), .val (.int d2), .val (.int (((p4.toUInt32 >>> ((2 : Int32) &&& 31).toUInt32).toInt32) &&& (3 : Int32))), .val (.ref b55), .unset, .unset] [(.ref r_83)])) _
              refine XS.astore X83.here hx rfl (hb hby at_122) rfl rfl (l' := #[.val (.int p0), .val (.int p1), .val (.int p2), .val (.int p3), .val (.int p4), .val (.int c2), .val (.int d2), .val (.int (((p4.toUInt32 >>> ((2 : Int32) &&& 31).toUInt32).toInt32) &&& (3 : Int32))), .val (.ref b55), .val (.ref r_83), .unset]) rfl ?_
              show Steps p.tables e below (T83.setTop (mkF m 124 #[.val (.int p0), .val (.int p1), .val (.int p2), .val (.int p3), .val (.int p4), .val (.int c2), .val (.int d2), .val (.int (((p4.toUInt32 >>> ((2 : Int32) &&& 31).toUInt32).toInt32) &&& (3 : Int32))), .val (.ref b55), .val (.ref r_83), .unset] [])) _
              refine XS.iconst X83.here hx rfl (hb hby at_124) ?_
              show Steps p.tables e below (T83.setTop (mkF m 125 #[.val (.int p0), .val (.int p1), .val (.int p2), .val (.int p3), .val (.int p4), .val (.int c2), .val (.int d2), .val (.int (((p4.toUInt32 >>> ((2 : Int32) &&& 31).toUInt32).toInt32) &&& (3 : Int32))), .val (.ref b55), .val (.ref r_83), .unset] [(.int (0 : Int32))])) _
              refine XS.istore X83.here hx rfl (hb hby at_125) rfl (l' := #[.val (.int p0), .val (.int p1), .val (.int p2), .val (.int p3), .val (.int p4), .val (.int c2), .val (.int d2), .val (.int (((p4.toUInt32 >>> ((2 : Int32) &&& 31).toUInt32).toInt32) &&& (3 : Int32))), .val (.ref b55), .val (.ref r_83), .val (.int (0 : Int32))]) rfl ?_
              show Steps p.tables e below (T83.setTop (mkF m 127 #[.val (.int p0), .val (.int p1), .val (.int p2), .val (.int p3), .val (.int p4), .val (.int c2), .val (.int d2), .val (.int (((p4.toUInt32 >>> ((2 : Int32) &&& 31).toUInt32).toInt32) &&& (3 : Int32))), .val (.ref b55), .val (.ref r_83), .val (.int (0 : Int32))] [])) _
              refine XS.aload X83.here hx rfl (hb hby at_127) rfl rfl ?_
              show Steps p.tables e below (T83.setTop (mkF m 129 #[.val (.int p0), .val (.int p1), .val (.int p2), .val (.int p3), .val (.int p4), .val (.int c2), .val (.int d2), .val (.int (((p4.toUInt32 >>> ((2 : Int32) &&& 31).toUInt32).toInt32) &&& (3 : Int32))), .val (.ref b55), .val (.ref r_83), .val (.int (0 : Int32))] [(.ref b55)])) _
              refine XS.aload X83.here hx rfl (hb hby at_129) rfl rfl ?_
              show Steps p.tables e below (T83.setTop (mkF m 131 #[.val (.int p0), .val (.int p1), .val (.int p2), .val (.int p3), .val (.int p4), .val (.int c2), .val (.int d2), .val (.int (((p4.toUInt32 >>> ((2 : Int32) &&& 31).toUInt32).toInt32) &&& (3 : Int32))), .val (.ref b55), .val (.ref r_83), .val (.int (0 : Int32))] [(.ref r_83), (.ref b55)])) _
              refine st84.trans ?_
              show Steps p.tables e below (T84.setTop (mkF m 134 #[.val (.int p0), .val (.int p1), .val (.int p2), .val (.int p3), .val (.int p4), .val (.int c2), .val (.int d2), .val (.int (((p4.toUInt32 >>> ((2 : Int32) &&& 31).toUInt32).toInt32) &&& (3 : Int32))), .val (.ref b55), .val (.ref r_83), .val (.int (0 : Int32))] [(.int (0 : Int32))])) _
              refine XS.iload X84.here hx rfl (hb hby at_134) rfl ?_
              show Steps p.tables e below (T84.setTop (mkF m 136 #[.val (.int p0), .val (.int p1), .val (.int p2), .val (.int p3), .val (.int p4), .val (.int c2), .val (.int d2), .val (.int (((p4.toUInt32 >>> ((2 : Int32) &&& 31).toUInt32).toInt32) &&& (3 : Int32))), .val (.ref b55), .val (.ref r_83), .val (.int (0 : Int32))] [(.int (0 : Int32)), (.int (0 : Int32))])) _
              refine XS.icmpNo X84.here hx rfl (hb hby at_136) rfl (teq (by decide : ((0 : Int32) = (0 : Int32)))).2 ?_
              show Steps p.tables e below (T84.setTop (mkF m 139 #[.val (.int p0), .val (.int p1), .val (.int p2), .val (.int p3), .val (.int p4), .val (.int c2), .val (.int d2), .val (.int (((p4.toUInt32 >>> ((2 : Int32) &&& 31).toUInt32).toInt32) &&& (3 : Int32))), .val (.ref b55), .val (.ref r_83), .val (.int (0 : Int32))] [])) _
              refine XS.iconst X84.here hx rfl (hb hby at_139) ?_
              show Steps p.tables e below (T84.setTop (mkF m 140 #[.val (.int p0), .val (.int p1), .val (.int p2), .val (.int p3), .val (.int p4), .val (.int c2), .val (.int d2), .val (.int (((p4.toUInt32 >>> ((2 : Int32) &&& 31).toUInt32).toInt32) &&& (3 : Int32))), .val (.ref b55), .val (.ref r_83), .val (.int (0 : Int32))] [(.int (1 : Int32))])) _
              refine XS.goto X84.here hx rfl (pc0 := 140) (pc' := 144) rfl (hb hby at_140) (by decide) (by decide) ?_
              show Steps p.tables e below (T84.setTop (mkF m 144 #[.val (.int p0), .val (.int p1), .val (.int p2), .val (.int p3), .val (.int p4), .val (.int c2), .val (.int d2), .val (.int (((p4.toUInt32 >>> ((2 : Int32) &&& 31).toUInt32).toInt32) &&& (3 : Int32))), .val (.ref b55), .val (.ref r_83), .val (.int (0 : Int32))] [(.int (1 : Int32))])) _
              exact retN X84 hx (t := .boolean) Bd.returns (by simp) (hb hby at_144) hr
            · show Q0 Z p0 p1 p2 p3 p4 w cl h0 n0 _ T84.heap _
              rw [e84]
              exact ⟨rfl, N84⟩
          · by_cases hhi : (127 : Int32) < p0
            · have Q86 := (own_staKeep (S_high.ext E55) i56_2 (allS (own_exaPlain A55) all0))
              obtain ⟨_, _, ⟨T87, L87, k87, n87⟩, -, X87, ⟨Lc87, hQ87, l87, y87, z87⟩, st87⟩ := Jvm.LawKit.callS X56 hx (y := (⟨"java/lang/Integer", "valueOf", "(I)Ljava/lang/Integer;"⟩ : MethodName)) hown (mvT hZ (hw _ (List.mem_of_getElem? (i := 20) rfl))) (mvT hZ (hw _ (List.mem_of_getElem? (i := 21) rfl))) (mvT hZ (hw _ (List.mem_of_getElem? (i := 22) rfl))) (mvT hZ (hw _ (List.mem_of_getElem? (i := 23) rfl))) (by decide) (backOf (W := 0) (rm4_hi l Z a0 hw [] p0 T56.heap n0 (Nat.le_trans Z0 K56.1) Q86 hlo hhi) hZ (hw _ (List.mem_of_getElem? (i := 23) rfl)) (hw _ (List.mem_of_getElem? (i := 22) rfl)) (by decide) (by decide)) (g := (mkF m 119 #[.val (.int p0), .val (.int p1), .val (.int p2), .val (.int p3), .val (.int p4), .val (.int c2), .val (.int d2), .val (.int (((p4.toUInt32 >>> ((2 : Int32) &&& 31).toUInt32).toInt32) &&& (3 : Int32))), .val (.ref b55), .unset, .unset] [(.int p0)])) rfl (by rw [hml]; rfl) (argsL := [(.int p0)]) (rest := []) (lenOf own_pd4 rfl) rfl (by show 2 * 0 + _ ≤ _; exact Nat.le_of_eq rfl) (hb hby at_119) (fun _ _ => ⟨rfl, rfl, (by decide : 1 + 1 ≤ _), (by decide : 2 + 1 ≤ _)⟩)
              dsimp only [Pt.U, Pt.locs, Pt.cells, Pt.slots] at X87 l87 y87 z87 st87 hQ87
              subst l87 y87 z87
              obtain ⟨r_87, rfl, N87q, i87_3, i87_4⟩ := hQ87
              have N87 := Fr.app N56 N87q
              have K87 := K56.trans i87_3 all0
              have Q89 := (i56_3.keep i87_3)
              obtain ⟨cq88, kq88, q88a, q88b, q88c⟩ := isOf hZ rfl Q89
              obtain ⟨_, _, ⟨T88, L88, k88, n88⟩, -, X88, ⟨Lc88, hQ88, l88, y88, z88⟩, st88⟩ := X87.virtualBack hx (y := (⟨"com/example/dalby/dalby/mesh/Cell", "equals", "(Ljava/lang/Object;)Z"⟩ : MethodName)) (z := (⟨"com/example/dalby/dalby/mesh/Cell", "equals", "(Ljava/lang/Object;)Z"⟩ : MethodName)) hown (mvT hZ (hw _ (List.mem_of_getElem? (i := 13) rfl))) (mvT hZ (hw _ (List.mem_of_getElem? (i := 14) rfl))) (notFace_of_selects (args := #[]) (mvT hZ (hw _ (List.mem_of_getElem? (i := 16) rfl)))) (mvT hZ (hw _ (List.mem_of_getElem? (i := 16) rfl))) (mvT hZ (hw _ (List.mem_of_getElem? (i := 15) rfl))) (by decide) (backOf (W := 0) (rm5_i l Z a0 hw [] b55 r_87 T87.heap n0 (Nat.le_trans Z0 K87.1) i87_4) hZ (hw _ (List.mem_of_getElem? (i := 17) rfl)) (hw _ (List.mem_of_getElem? (i := 2) rfl)) (by decide) (by decide)) q88a q88c (g := (mkF m 131 #[.val (.int p0), .val (.int p1), .val (.int p2), .val (.int p3), .val (.int p4), .val (.int c2), .val (.int d2), .val (.int (((p4.toUInt32 >>> ((2 : Int32) &&& 31).toUInt32).toInt32) &&& (3 : Int32))), .val (.ref b55), .val (.ref r_87), .val (.int (0 : Int32))] [(.ref r_87), (.ref b55)])) rfl (by rw [hml]; rfl) (Steps.refl _) (argsL := [(.ref r_87)]) (rest := []) (lenOf own_pd3 rfl) rfl (by show 2 * 0 + _ ≤ _; exact Nat.le_of_eq rfl) (hb hby at_131) (fun _ _ => ⟨rfl, rfl, (by decide : 2 + 0 ≤ _), (by decide : 3 + 0 ≤ _)⟩)
              dsimp only [Pt.U, Pt.locs, Pt.cells, Pt.slots] at X88 l88 y88 z88 st88 hQ88
              subst l88 y88 z88
              obtain ⟨rfl, N88q, e88⟩ := hQ88
              have N88 := Fr.app N87 N88q
              obtain ⟨fs, hr, hrun, hended, hW, hsame⟩ := X88.leave (v := some (.int (1 : Int32))) (fun h => by rw [Bd.returns] at h; cases h)
              refine ⟨_, _, pre82 _ ?_, hrun, hended, _, _, rfl, ?_, ⟨_, rfl⟩, hW, hsame.mono (by decide) (by decide)⟩
              · show Steps p.tables e below (T56.setTop (mkF m 118 #[.val (.int p0), .val (.int p1), .val (.int p2), .val (.int p3), .val (.int p4), .val (.int c2), .val (.int d2), .val (.int (((p4.toUInt32 >>> ((2 : Int32) &&& 31).toUInt32).toInt32) &&& (3 : Int32))), .val (.ref b55), .unset, .unset] [])) _
                refine XS.iloadN X56.here hx rfl (hb hby at_118) rfl ?_
                show Steps p.tables e below (T56.setTop (mkF m 119 #[.val (.int p0), .val (.int p1), .val (.int p2), .val (.int p3), .val (.int p4), .val (.int c2), .val (.int d2), .val (.int (((p4.toUInt32 >>> ((2 : Int32) &&& 31).toUInt32).toInt32) &&& (3 : Int32))), .val (.ref b55), .unset, .unset] [(.int p0)])) _
                refine st87 _ ?_
                show Steps p.tables e below (T87.setTop (mkF m 122 #[.val (.int p0), .val (.int p1), .val (.int p2), .val (.int p3), .val (.int p4), .val (.int c2), .val (.int d2), .val (.int (((p4.toUInt32 >>> ((2 : Int32) &&& 31).toUInt32).toInt32) &&& (3 : Int32))), .val (.ref b55), .unset, .unset] [(.ref r_87)])) _
                refine XS.astore X87.here hx rfl (hb hby at_122) rfl rfl (l' := #[.val (.int p0), .val (.int p1), .val (.int p2), .val (.int p3), .val (.int p4), .val (.int c2), .val (.int d2), .val (.int (((p4.toUInt32 >>> ((2 : Int32) &&& 31).toUInt32).toInt32) &&& (3 : Int32))), .val (.ref b55), .val (.ref r_87), .unset]) rfl ?_
                show Steps p.tables e below (T87.setTop (mkF m 124 #[.val (.int p0), .val (.int p1), .val (.int p2), .val (.int p3), .val (.int p4), .val (.int c2), .val (.int d2), .val (.int (((p4.toUInt32 >>> ((2 : Int32) &&& 31).toUInt32).toInt32) &&& (3 : Int32))), .val (.ref b55), .val (.ref r_87), .unset] [])) _
                refine XS.iconst X87.here hx rfl (hb hby at_124) ?_
                show Steps p.tables e below (T87.setTop (mkF m 125 #[.val (.int p0), .val (.int p1), .val (.int p2), .val (.int p3), .val (.int p4), .val (.int c2), .val (.int d2), .val (.int (((p4.toUInt32 >>> ((2 : Int32) &&& 31).toUInt32).toInt32) &&& (3 : Int32))), .val (.ref b55), .val (.ref r_87), .unset] [(.int (0 : Int32))])) _
                refine XS.istore X87.here hx rfl (hb hby at_125) rfl (l' := #[.val (.int p0), .val (.int p1), .val (.int p2), .val (.int p3), .val (.int p4), .val (.int c2), .val (.int d2), .val (.int (((p4.toUInt32 >>> ((2 : Int32) &&& 31).toUInt32).toInt32) &&& (3 : Int32))), .val (.ref b55), .val (.ref r_87), .val (.int (0 : Int32))]) rfl ?_
                show Steps p.tables e below (T87.setTop (mkF m 127 #[.val (.int p0), .val (.int p1), .val (.int p2), .val (.int p3), .val (.int p4), .val (.int c2), .val (.int d2), .val (.int (((p4.toUInt32 >>> ((2 : Int32) &&& 31).toUInt32).toInt32) &&& (3 : Int32))), .val (.ref b55), .val (.ref r_87), .val (.int (0 : Int32))] [])) _
                refine XS.aload X87.here hx rfl (hb hby at_127) rfl rfl ?_
                show Steps p.tables e below (T87.setTop (mkF m 129 #[.val (.int p0), .val (.int p1), .val (.int p2), .val (.int p3), .val (.int p4), .val (.int c2), .val (.int d2), .val (.int (((p4.toUInt32 >>> ((2 : Int32) &&& 31).toUInt32).toInt32) &&& (3 : Int32))), .val (.ref b55), .val (.ref r_87), .val (.int (0 : Int32))] [(.ref b55)])) _
                refine XS.aload X87.here hx rfl (hb hby at_129) rfl rfl ?_
                show Steps p.tables e below (T87.setTop (mkF m 131 #[.val (.int p0), .val (.int p1), .val (.int p2), .val (.int p3), .val (.int p4), .val (.int c2), .val (.int d2), .val (.int (((p4.toUInt32 >>> ((2 : Int32) &&& 31).toUInt32).toInt32) &&& (3 : Int32))), .val (.ref b55), .val (.ref r_87), .val (.int (0 : Int32))] [(.ref r_87), (.ref b55)])) _
                refine st88.trans ?_
                show Steps p.tables e below (T88.setTop (mkF m 134 #[.val (.int p0), .val (.int p1), .val (.int p2), .val (.int p3), .val (.int p4), .val (.int c2), .val (.int d2), .val (.int (((p4.toUInt32 >>> ((2 : Int32) &&& 31).toUInt32).toInt32) &&& (3 : Int32))), .val (.ref b55), .val (.ref r_87), .val (.int (0 : Int32))] [(.int (0 : Int32))])) _
                refine XS.iload X88.here hx rfl (hb hby at_134) rfl ?_
                show Steps p.tables e below (T88.setTop (mkF m 136 #[.val (.int p0), .val (.int p1), .val (.int p2), .val (.int p3), .val (.int p4), .val (.int c2), .val (.int d2), .val (.int (((p4.toUInt32 >>> ((2 : Int32) &&& 31).toUInt32).toInt32) &&& (3 : Int32))), .val (.ref b55), .val (.ref r_87), .val (.int (0 : Int32))] [(.int (0 : Int32)), (.int (0 : Int32))])) _
                refine XS.icmpNo X88.here hx rfl (hb hby at_136) rfl (teq (by decide : ((0 : Int32) = (0 : Int32)))).2 ?_
                show Steps p.tables e below (T88.setTop (mkF m 139 #[.val (.int p0), .val (.int p1), .val (.int p2), .val (.int p3), .val (.int p4), .val (.int c2), .val (.int d2), .val (.int (((p4.toUInt32 >>> ((2 : Int32) &&& 31).toUInt32).toInt32) &&& (3 : Int32))), .val (.ref b55), .val (.ref r_87), .val (.int (0 : Int32))] [])) _
                refine XS.iconst X88.here hx rfl (hb hby at_139) ?_
                show Steps p.tables e below (T88.setTop (mkF m 140 #[.val (.int p0), .val (.int p1), .val (.int p2), .val (.int p3), .val (.int p4), .val (.int c2), .val (.int d2), .val (.int (((p4.toUInt32 >>> ((2 : Int32) &&& 31).toUInt32).toInt32) &&& (3 : Int32))), .val (.ref b55), .val (.ref r_87), .val (.int (0 : Int32))] [(.int (1 : Int32))])) _
                refine XS.goto X88.here hx rfl (pc0 := 140) (pc' := 144) rfl (hb hby at_140) (by decide) (by decide) ?_
                show Steps p.tables e below (T88.setTop (mkF m 144 #[.val (.int p0), .val (.int p1), .val (.int p2), .val (.int p3), .val (.int p4), .val (.int c2), .val (.int d2), .val (.int (((p4.toUInt32 >>> ((2 : Int32) &&& 31).toUInt32).toInt32) &&& (3 : Int32))), .val (.ref b55), .val (.ref r_87), .val (.int (0 : Int32))] [(.int (1 : Int32))])) _
                exact retN X88 hx (t := .boolean) Bd.returns (by simp) (hb hby at_144) hr
              · show Q0 Z p0 p1 p2 p3 p4 w cl h0 n0 _ T88.heap _
                rw [e88]
                exact ⟨rfl, N88⟩
            · obtain ⟨hin0, y, hat0, E_y⟩ := hbx hlo hhi
              have Q90 := (own_staKeep (S_high.ext E55) i56_2 (allS (own_exaPlain A55) all0))
              have Q91 := (own_staKeep (S_cache.ext E55) i56_2 (allS (own_exaPlain A55) all0))
              have Q92 := (own_arrKeep (Ar_w.ext E55) i56_2 (ninS ne_w_b55 nin0))
              have Q93 := ((E_y.ext E55).keep i56_2)
              obtain ⟨_, _, ⟨T94, L94, k94, n94⟩, -, X94, ⟨Lc94, hQ94, l94, y94, z94⟩, st94⟩ := Jvm.LawKit.callS X56 hx (y := (⟨"java/lang/Integer", "valueOf", "(I)Ljava/lang/Integer;"⟩ : MethodName)) hown (mvT hZ (hw _ (List.mem_of_getElem? (i := 20) rfl))) (mvT hZ (hw _ (List.mem_of_getElem? (i := 21) rfl))) (mvT hZ (hw _ (List.mem_of_getElem? (i := 22) rfl))) (mvT hZ (hw _ (List.mem_of_getElem? (i := 23) rfl))) (by decide) (backOf (W := 0) (rm4_c l Z a0 hw [] p0 w cl y T56.heap n0 (Nat.le_trans Z0 K56.1) Q90 hlo hhi Q91 Q92 hin0 hat0 Q93) hZ (hw _ (List.mem_of_getElem? (i := 23) rfl)) (hw _ (List.mem_of_getElem? (i := 22) rfl)) (by decide) (by decide)) (g := (mkF m 119 #[.val (.int p0), .val (.int p1), .val (.int p2), .val (.int p3), .val (.int p4), .val (.int c2), .val (.int d2), .val (.int (((p4.toUInt32 >>> ((2 : Int32) &&& 31).toUInt32).toInt32) &&& (3 : Int32))), .val (.ref b55), .unset, .unset] [(.int p0)])) rfl (by rw [hml]; rfl) (argsL := [(.int p0)]) (rest := []) (lenOf own_pd4 rfl) rfl (by show 2 * 0 + _ ≤ _; exact Nat.le_of_eq rfl) (hb hby at_119) (fun _ _ => ⟨rfl, rfl, (by decide : 1 + 0 ≤ _), (by decide : 2 + 0 ≤ _)⟩)
              dsimp only [Pt.U, Pt.locs, Pt.cells, Pt.slots] at X94 l94 y94 z94 st94 hQ94
              subst l94 y94 z94
              obtain ⟨r_94, rfl, N94q, i94_3, i94_4⟩ := hQ94
              have N94 := Fr.app N56 N94q
              have K94 := K56.trans i94_3 all0
              have Q96 := (i56_3.keep i94_3)
              obtain ⟨cq95, kq95, q95a, q95b, q95c⟩ := isOf hZ rfl Q96
              obtain ⟨_, _, ⟨T95, L95, k95, n95⟩, -, X95, ⟨Lc95, hQ95, l95, y95, z95⟩, st95⟩ := X94.virtualBack hx (y := (⟨"com/example/dalby/dalby/mesh/Cell", "equals", "(Ljava/lang/Object;)Z"⟩ : MethodName)) (z := (⟨"com/example/dalby/dalby/mesh/Cell", "equals", "(Ljava/lang/Object;)Z"⟩ : MethodName)) hown (mvT hZ (hw _ (List.mem_of_getElem? (i := 13) rfl))) (mvT hZ (hw _ (List.mem_of_getElem? (i := 14) rfl))) (notFace_of_selects (args := #[]) (mvT hZ (hw _ (List.mem_of_getElem? (i := 16) rfl)))) (mvT hZ (hw _ (List.mem_of_getElem? (i := 16) rfl))) (mvT hZ (hw _ (List.mem_of_getElem? (i := 15) rfl))) (by decide) (backOf (W := 0) (rm5_i l Z a0 hw [] b55 r_94 T94.heap n0 (Nat.le_trans Z0 K94.1) i94_4) hZ (hw _ (List.mem_of_getElem? (i := 17) rfl)) (hw _ (List.mem_of_getElem? (i := 2) rfl)) (by decide) (by decide)) q95a q95c (g := (mkF m 131 #[.val (.int p0), .val (.int p1), .val (.int p2), .val (.int p3), .val (.int p4), .val (.int c2), .val (.int d2), .val (.int (((p4.toUInt32 >>> ((2 : Int32) &&& 31).toUInt32).toInt32) &&& (3 : Int32))), .val (.ref b55), .val (.ref r_94), .val (.int (0 : Int32))] [(.ref r_94), (.ref b55)])) rfl (by rw [hml]; rfl) (Steps.refl _) (argsL := [(.ref r_94)]) (rest := []) (lenOf own_pd3 rfl) rfl (by show 2 * 0 + _ ≤ _; exact Nat.le_of_eq rfl) (hb hby at_131) (fun _ _ => ⟨rfl, rfl, (by decide : 1 + 0 ≤ _), (by decide : 2 + 0 ≤ _)⟩)
              dsimp only [Pt.U, Pt.locs, Pt.cells, Pt.slots] at X95 l95 y95 z95 st95 hQ95
              subst l95 y95 z95
              obtain ⟨rfl, N95q, e95⟩ := hQ95
              have N95 := Fr.app N94 N95q
              obtain ⟨fs, hr, hrun, hended, hW, hsame⟩ := X95.leave (v := some (.int (1 : Int32))) (fun h => by rw [Bd.returns] at h; cases h)
              refine ⟨_, _, pre82 _ ?_, hrun, hended, _, _, rfl, ?_, ⟨_, rfl⟩, hW, hsame.mono (by decide) (by decide)⟩
              · show Steps p.tables e below (T56.setTop (mkF m 118 #[.val (.int p0), .val (.int p1), .val (.int p2), .val (.int p3), .val (.int p4), .val (.int c2), .val (.int d2), .val (.int (((p4.toUInt32 >>> ((2 : Int32) &&& 31).toUInt32).toInt32) &&& (3 : Int32))), .val (.ref b55), .unset, .unset] [])) _
                refine XS.iloadN X56.here hx rfl (hb hby at_118) rfl ?_
                show Steps p.tables e below (T56.setTop (mkF m 119 #[.val (.int p0), .val (.int p1), .val (.int p2), .val (.int p3), .val (.int p4), .val (.int c2), .val (.int d2), .val (.int (((p4.toUInt32 >>> ((2 : Int32) &&& 31).toUInt32).toInt32) &&& (3 : Int32))), .val (.ref b55), .unset, .unset] [(.int p0)])) _
                refine st94 _ ?_
                show Steps p.tables e below (T94.setTop (mkF m 122 #[.val (.int p0), .val (.int p1), .val (.int p2), .val (.int p3), .val (.int p4), .val (.int c2), .val (.int d2), .val (.int (((p4.toUInt32 >>> ((2 : Int32) &&& 31).toUInt32).toInt32) &&& (3 : Int32))), .val (.ref b55), .unset, .unset] [(.ref r_94)])) _
                refine XS.astore X94.here hx rfl (hb hby at_122) rfl rfl (l' := #[.val (.int p0), .val (.int p1), .val (.int p2), .val (.int p3), .val (.int p4), .val (.int c2), .val (.int d2), .val (.int (((p4.toUInt32 >>> ((2 : Int32) &&& 31).toUInt32).toInt32) &&& (3 : Int32))), .val (.ref b55), .val (.ref r_94), .unset]) rfl ?_
                show Steps p.tables e below (T94.setTop (mkF m 124 #[.val (.int p0), .val (.int p1), .val (.int p2), .val (.int p3), .val (.int p4), .val (.int c2), .val (.int d2), .val (.int (((p4.toUInt32 >>> ((2 : Int32) &&& 31).toUInt32).toInt32) &&& (3 : Int32))), .val (.ref b55), .val (.ref r_94), .unset] [])) _
                refine XS.iconst X94.here hx rfl (hb hby at_124) ?_
                show Steps p.tables e below (T94.setTop (mkF m 125 #[.val (.int p0), .val (.int p1), .val (.int p2), .val (.int p3), .val (.int p4), .val (.int c2), .val (.int d2), .val (.int (((p4.toUInt32 >>> ((2 : Int32) &&& 31).toUInt32).toInt32) &&& (3 : Int32))), .val (.ref b55), .val (.ref r_94), .unset] [(.int (0 : Int32))])) _
                refine XS.istore X94.here hx rfl (hb hby at_125) rfl (l' := #[.val (.int p0), .val (.int p1), .val (.int p2), .val (.int p3), .val (.int p4), .val (.int c2), .val (.int d2), .val (.int (((p4.toUInt32 >>> ((2 : Int32) &&& 31).toUInt32).toInt32) &&& (3 : Int32))), .val (.ref b55), .val (.ref r_94), .val (.int (0 : Int32))]) rfl ?_
                show Steps p.tables e below (T94.setTop (mkF m 127 #[.val (.int p0), .val (.int p1), .val (.int p2), .val (.int p3), .val (.int p4), .val (.int c2), .val (.int d2), .val (.int (((p4.toUInt32 >>> ((2 : Int32) &&& 31).toUInt32).toInt32) &&& (3 : Int32))), .val (.ref b55), .val (.ref r_94), .val (.int (0 : Int32))] [])) _
                refine XS.aload X94.here hx rfl (hb hby at_127) rfl rfl ?_
                show Steps p.tables e below (T94.setTop (mkF m 129 #[.val (.int p0), .val (.int p1), .val (.int p2), .val (.int p3), .val (.int p4), .val (.int c2), .val (.int d2), .val (.int (((p4.toUInt32 >>> ((2 : Int32) &&& 31).toUInt32).toInt32) &&& (3 : Int32))), .val (.ref b55), .val (.ref r_94), .val (.int (0 : Int32))] [(.ref b55)])) _
                refine XS.aload X94.here hx rfl (hb hby at_129) rfl rfl ?_
                show Steps p.tables e below (T94.setTop (mkF m 131 #[.val (.int p0), .val (.int p1), .val (.int p2), .val (.int p3), .val (.int p4), .val (.int c2), .val (.int d2), .val (.int (((p4.toUInt32 >>> ((2 : Int32) &&& 31).toUInt32).toInt32) &&& (3 : Int32))), .val (.ref b55), .val (.ref r_94), .val (.int (0 : Int32))] [(.ref r_94), (.ref b55)])) _
                refine st95.trans ?_
                show Steps p.tables e below (T95.setTop (mkF m 134 #[.val (.int p0), .val (.int p1), .val (.int p2), .val (.int p3), .val (.int p4), .val (.int c2), .val (.int d2), .val (.int (((p4.toUInt32 >>> ((2 : Int32) &&& 31).toUInt32).toInt32) &&& (3 : Int32))), .val (.ref b55), .val (.ref r_94), .val (.int (0 : Int32))] [(.int (0 : Int32))])) _
                refine XS.iload X95.here hx rfl (hb hby at_134) rfl ?_
                show Steps p.tables e below (T95.setTop (mkF m 136 #[.val (.int p0), .val (.int p1), .val (.int p2), .val (.int p3), .val (.int p4), .val (.int c2), .val (.int d2), .val (.int (((p4.toUInt32 >>> ((2 : Int32) &&& 31).toUInt32).toInt32) &&& (3 : Int32))), .val (.ref b55), .val (.ref r_94), .val (.int (0 : Int32))] [(.int (0 : Int32)), (.int (0 : Int32))])) _
                refine XS.icmpNo X95.here hx rfl (hb hby at_136) rfl (teq (by decide : ((0 : Int32) = (0 : Int32)))).2 ?_
                show Steps p.tables e below (T95.setTop (mkF m 139 #[.val (.int p0), .val (.int p1), .val (.int p2), .val (.int p3), .val (.int p4), .val (.int c2), .val (.int d2), .val (.int (((p4.toUInt32 >>> ((2 : Int32) &&& 31).toUInt32).toInt32) &&& (3 : Int32))), .val (.ref b55), .val (.ref r_94), .val (.int (0 : Int32))] [])) _
                refine XS.iconst X95.here hx rfl (hb hby at_139) ?_
                show Steps p.tables e below (T95.setTop (mkF m 140 #[.val (.int p0), .val (.int p1), .val (.int p2), .val (.int p3), .val (.int p4), .val (.int c2), .val (.int d2), .val (.int (((p4.toUInt32 >>> ((2 : Int32) &&& 31).toUInt32).toInt32) &&& (3 : Int32))), .val (.ref b55), .val (.ref r_94), .val (.int (0 : Int32))] [(.int (1 : Int32))])) _
                refine XS.goto X95.here hx rfl (pc0 := 140) (pc' := 144) rfl (hb hby at_140) (by decide) (by decide) ?_
                show Steps p.tables e below (T95.setTop (mkF m 144 #[.val (.int p0), .val (.int p1), .val (.int p2), .val (.int p3), .val (.int p4), .val (.int c2), .val (.int d2), .val (.int (((p4.toUInt32 >>> ((2 : Int32) &&& 31).toUInt32).toInt32) &&& (3 : Int32))), .val (.ref b55), .val (.ref r_94), .val (.int (0 : Int32))] [(.int (1 : Int32))])) _
                exact retN X95 hx (t := .boolean) Bd.returns (by simp) (hb hby at_144) hr
              · show Q0 Z p0 p1 p2 p3 p4 w cl h0 n0 _ T95.heap _
                rw [e95]
                exact ⟨rfl, N95⟩
  · have pre48 : ∀ t, Steps p.tables e below (s₁.setTop (mkF m 4 #[.val (.int p0), .val (.int p1), .val (.int p2), .val (.int p3), .val (.int p4), .unset, .unset, .unset, .unset, .unset, .unset] [(.int (p4 &&& (1 : Int32)))])) t → Steps p.tables e below (s₁.setTop (entryFrame m #[(.int p0), (.int p1), (.int p2), (.int p3), (.int p4)] maxLocals)) t := fun t k => by
      refine pre0 _ ?_
      show Steps p.tables e below (s₁.setTop (mkF m 0 #[.val (.int p0), .val (.int p1), .val (.int p2), .val (.int p3), .val (.int p4), .unset, .unset, .unset, .unset, .unset, .unset] [])) _
      refine XS.iload X0.here hx rfl (hb hby at_0) rfl ?_
      show Steps p.tables e below (s₁.setTop (mkF m 2 #[.val (.int p0), .val (.int p1), .val (.int p2), .val (.int p3), .val (.int p4), .unset, .unset, .unset, .unset, .unset, .unset] [(.int p4)])) _
      refine XS.iconst X0.here hx rfl (hb hby at_2) ?_
      show Steps p.tables e below (s₁.setTop (mkF m 3 #[.val (.int p0), .val (.int p1), .val (.int p2), .val (.int p3), .val (.int p4), .unset, .unset, .unset, .unset, .unset, .unset] [(.int (1 : Int32)), (.int p4)])) _
      refine XS.iand X0.here hx rfl (hb hby at_3) rfl ?_
      exact k
    by_cases hc4 : (p4 &&& (1 : Int32)) = (0 : Int32)
    · have pre49 : ∀ t, Steps p.tables e below (s₁.setTop (mkF m 18 #[.val (.int p0), .val (.int p1), .val (.int p2), .val (.int p3), .val (.int p4), .val (.int p2), .unset, .unset, .unset, .unset, .unset] [(.int (p4 &&& (2 : Int32)))])) t → Steps p.tables e below (s₁.setTop (entryFrame m #[(.int p0), (.int p1), (.int p2), (.int p3), (.int p4)] maxLocals)) t := fun t k => by
        refine pre48 _ ?_
        show Steps p.tables e below (s₁.setTop (mkF m 4 #[.val (.int p0), .val (.int p1), .val (.int p2), .val (.int p3), .val (.int p4), .unset, .unset, .unset, .unset, .unset, .unset] [(.int (p4 &&& (1 : Int32)))])) _
        refine XS.ifYes X0.here hx rfl (pc0 := 4) (pc' := 11) rfl (hb hby at_4) rfl ((if0 _ _).trans (teq hc4).1) (by decide) (by decide) ?_
        show Steps p.tables e below (s₁.setTop (mkF m 11 #[.val (.int p0), .val (.int p1), .val (.int p2), .val (.int p3), .val (.int p4), .unset, .unset, .unset, .unset, .unset, .unset] [])) _
        refine XS.iloadN X0.here hx rfl (hb hby at_11) rfl ?_
        show Steps p.tables e below (s₁.setTop (mkF m 12 #[.val (.int p0), .val (.int p1), .val (.int p2), .val (.int p3), .val (.int p4), .unset, .unset, .unset, .unset, .unset, .unset] [(.int p2)])) _
        refine XS.istore X0.here hx rfl (hb hby at_12) rfl (l' := #[.val (.int p0), .val (.int p1), .val (.int p2), .val (.int p3), .val (.int p4), .val (.int p2), .unset, .unset, .unset, .unset, .unset]) rfl ?_
        show Steps p.tables e below (s₁.setTop (mkF m 14 #[.val (.int p0), .val (.int p1), .val (.int p2), .val (.int p3), .val (.int p4), .val (.int p2), .unset, .unset, .unset, .unset, .unset] [])) _
        refine XS.iload X0.here hx rfl (hb hby at_14) rfl ?_
        show Steps p.tables e below (s₁.setTop (mkF m 16 #[.val (.int p0), .val (.int p1), .val (.int p2), .val (.int p3), .val (.int p4), .val (.int p2), .unset, .unset, .unset, .unset, .unset] [(.int p4)])) _
        refine XS.iconst X0.here hx rfl (hb hby at_16) ?_
        show Steps p.tables e below (s₁.setTop (mkF m 17 #[.val (.int p0), .val (.int p1), .val (.int p2), .val (.int p3), .val (.int p4), .val (.int p2), .unset, .unset, .unset, .unset, .unset] [(.int (2 : Int32)), (.int p4)])) _
        refine XS.iand X0.here hx rfl (hb hby at_17) rfl ?_
        exact k
      by_cases hc18 : (p4 &&& (2 : Int32)) = (0 : Int32)
      · have pre50 : ∀ t, Steps p.tables e below (s₁.setTop (mkF m 28 #[.val (.int p0), .val (.int p1), .val (.int p2), .val (.int p3), .val (.int p4), .val (.int p2), .val (.int p3), .unset, .unset, .unset, .unset] [])) t → Steps p.tables e below (s₁.setTop (entryFrame m #[(.int p0), (.int p1), (.int p2), (.int p3), (.int p4)] maxLocals)) t := fun t k => by
          refine pre49 _ ?_
          show Steps p.tables e below (s₁.setTop (mkF m 18 #[.val (.int p0), .val (.int p1), .val (.int p2), .val (.int p3), .val (.int p4), .val (.int p2), .unset, .unset, .unset, .unset, .unset] [(.int (p4 &&& (2 : Int32)))])) _
          refine XS.ifYes X0.here hx rfl (pc0 := 18) (pc' := 25) rfl (hb hby at_18) rfl ((if0 _ _).trans (teq hc18).1) (by decide) (by decide) ?_
          show Steps p.tables e below (s₁.setTop (mkF m 25 #[.val (.int p0), .val (.int p1), .val (.int p2), .val (.int p3), .val (.int p4), .val (.int p2), .unset, .unset, .unset, .unset, .unset] [])) _
          refine XS.iloadN X0.here hx rfl (hb hby at_25) rfl ?_
          show Steps p.tables e below (s₁.setTop (mkF m 26 #[.val (.int p0), .val (.int p1), .val (.int p2), .val (.int p3), .val (.int p4), .val (.int p2), .unset, .unset, .unset, .unset, .unset] [(.int p3)])) _
          refine XS.istore X0.here hx rfl (hb hby at_26) rfl (l' := #[.val (.int p0), .val (.int p1), .val (.int p2), .val (.int p3), .val (.int p4), .val (.int p2), .val (.int p3), .unset, .unset, .unset, .unset]) rfl ?_
          exact k
        exact ⟨p2, p3, s₁, X0, e0, pre50⟩
      · have pre51 : ∀ t, Steps p.tables e below (s₁.setTop (mkF m 28 #[.val (.int p0), .val (.int p1), .val (.int p2), .val (.int p3), .val (.int p4), .val (.int p2), .val (.int p1), .unset, .unset, .unset, .unset] [])) t → Steps p.tables e below (s₁.setTop (entryFrame m #[(.int p0), (.int p1), (.int p2), (.int p3), (.int p4)] maxLocals)) t := fun t k => by
          refine pre49 _ ?_
          show Steps p.tables e below (s₁.setTop (mkF m 18 #[.val (.int p0), .val (.int p1), .val (.int p2), .val (.int p3), .val (.int p4), .val (.int p2), .unset, .unset, .unset, .unset, .unset] [(.int (p4 &&& (2 : Int32)))])) _
          refine XS.ifNo X0.here hx rfl (hb hby at_18) rfl ((if0 _ _).trans (feq hc18).1) ?_
          show Steps p.tables e below (s₁.setTop (mkF m 21 #[.val (.int p0), .val (.int p1), .val (.int p2), .val (.int p3), .val (.int p4), .val (.int p2), .unset, .unset, .unset, .unset, .unset] [])) _
          refine XS.iloadN X0.here hx rfl (hb hby at_21) rfl ?_
          show Steps p.tables e below (s₁.setTop (mkF m 22 #[.val (.int p0), .val (.int p1), .val (.int p2), .val (.int p3), .val (.int p4), .val (.int p2), .unset, .unset, .unset, .unset, .unset] [(.int p1)])) _
          refine XS.goto X0.here hx rfl (pc0 := 22) (pc' := 26) rfl (hb hby at_22) (by decide) (by decide) ?_
          show Steps p.tables e below (s₁.setTop (mkF m 26 #[.val (.int p0), .val (.int p1), .val (.int p2), .val (.int p3), .val (.int p4), .val (.int p2), .unset, .unset, .unset, .unset, .unset] [(.int p1)])) _
          refine XS.istore X0.here hx rfl (hb hby at_26) rfl (l' := #[.val (.int p0), .val (.int p1), .val (.int p2), .val (.int p3), .val (.int p4), .val (.int p2), .val (.int p1), .unset, .unset, .unset, .unset]) rfl ?_
          exact k
        exact ⟨p2, p1, s₁, X0, e0, pre51⟩
    · have pre52 : ∀ t, Steps p.tables e below (s₁.setTop (mkF m 18 #[.val (.int p0), .val (.int p1), .val (.int p2), .val (.int p3), .val (.int p4), .val (.int p0), .unset, .unset, .unset, .unset, .unset] [(.int (p4 &&& (2 : Int32)))])) t → Steps p.tables e below (s₁.setTop (entryFrame m #[(.int p0), (.int p1), (.int p2), (.int p3), (.int p4)] maxLocals)) t := fun t k => by
        refine pre48 _ ?_
        show Steps p.tables e below (s₁.setTop (mkF m 4 #[.val (.int p0), .val (.int p1), .val (.int p2), .val (.int p3), .val (.int p4), .unset, .unset, .unset, .unset, .unset, .unset] [(.int (p4 &&& (1 : Int32)))])) _
        refine XS.ifNo X0.here hx rfl (hb hby at_4) rfl ((if0 _ _).trans (feq hc4).1) ?_
        show Steps p.tables e below (s₁.setTop (mkF m 7 #[.val (.int p0), .val (.int p1), .val (.int p2), .val (.int p3), .val (.int p4), .unset, .unset, .unset, .unset, .unset, .unset] [])) _
        refine XS.iloadN X0.here hx rfl (hb hby at_7) rfl ?_
        show Steps p.tables e below (s₁.setTop (mkF m 8 #[.val (.int p0), .val (.int p1), .val (.int p2), .val (.int p3), .val (.int p4), .unset, .unset, .unset, .unset, .unset, .unset] [(.int p0)])) _
        refine XS.goto X0.here hx rfl (pc0 := 8) (pc' := 12) rfl (hb hby at_8) (by decide) (by decide) ?_
        show Steps p.tables e below (s₁.setTop (mkF m 12 #[.val (.int p0), .val (.int p1), .val (.int p2), .val (.int p3), .val (.int p4), .unset, .unset, .unset, .unset, .unset, .unset] [(.int p0)])) _
        refine XS.istore X0.here hx rfl (hb hby at_12) rfl (l' := #[.val (.int p0), .val (.int p1), .val (.int p2), .val (.int p3), .val (.int p4), .val (.int p0), .unset, .unset, .unset, .unset, .unset]) rfl ?_
        show Steps p.tables e below (s₁.setTop (mkF m 14 #[.val (.int p0), .val (.int p1), .val (.int p2), .val (.int p3), .val (.int p4), .val (.int p0), .unset, .unset, .unset, .unset, .unset] [])) _
        refine XS.iload X0.here hx rfl (hb hby at_14) rfl ?_
        show Steps p.tables e below (s₁.setTop (mkF m 16 #[.val (.int p0), .val (.int p1), .val (.int p2), .val (.int p3), .val (.int p4), .val (.int p0), .unset, .unset, .unset, .unset, .unset] [(.int p4)])) _
        refine XS.iconst X0.here hx rfl (hb hby at_16) ?_
        show Steps p.tables e below (s₁.setTop (mkF m 17 #[.val (.int p0), .val (.int p1), .val (.int p2), .val (.int p3), .val (.int p4), .val (.int p0), .unset, .unset, .unset, .unset, .unset] [(.int (2 : Int32)), (.int p4)])) _
        refine XS.iand X0.here hx rfl (hb hby at_17) rfl ?_
        exact k
      by_cases hc18 : (p4 &&& (2 : Int32)) = (0 : Int32)
      · have pre53 : ∀ t, Steps p.tables e below (s₁.setTop (mkF m 28 #[.val (.int p0), .val (.int p1), .val (.int p2), .val (.int p3), .val (.int p4), .val (.int p0), .val (.int p3), .unset, .unset, .unset, .unset] [])) t → Steps p.tables e below (s₁.setTop (entryFrame m #[(.int p0), (.int p1), (.int p2), (.int p3), (.int p4)] maxLocals)) t := fun t k => by
          refine pre52 _ ?_
          show Steps p.tables e below (s₁.setTop (mkF m 18 #[.val (.int p0), .val (.int p1), .val (.int p2), .val (.int p3), .val (.int p4), .val (.int p0), .unset, .unset, .unset, .unset, .unset] [(.int (p4 &&& (2 : Int32)))])) _
          refine XS.ifYes X0.here hx rfl (pc0 := 18) (pc' := 25) rfl (hb hby at_18) rfl ((if0 _ _).trans (teq hc18).1) (by decide) (by decide) ?_
          show Steps p.tables e below (s₁.setTop (mkF m 25 #[.val (.int p0), .val (.int p1), .val (.int p2), .val (.int p3), .val (.int p4), .val (.int p0), .unset, .unset, .unset, .unset, .unset] [])) _
          refine XS.iloadN X0.here hx rfl (hb hby at_25) rfl ?_
          show Steps p.tables e below (s₁.setTop (mkF m 26 #[.val (.int p0), .val (.int p1), .val (.int p2), .val (.int p3), .val (.int p4), .val (.int p0), .unset, .unset, .unset, .unset, .unset] [(.int p3)])) _
          refine XS.istore X0.here hx rfl (hb hby at_26) rfl (l' := #[.val (.int p0), .val (.int p1), .val (.int p2), .val (.int p3), .val (.int p4), .val (.int p0), .val (.int p3), .unset, .unset, .unset, .unset]) rfl ?_
          exact k
        exact ⟨p0, p3, s₁, X0, e0, pre53⟩
      · have pre54 : ∀ t, Steps p.tables e below (s₁.setTop (mkF m 28 #[.val (.int p0), .val (.int p1), .val (.int p2), .val (.int p3), .val (.int p4), .val (.int p0), .val (.int p1), .unset, .unset, .unset, .unset] [])) t → Steps p.tables e below (s₁.setTop (entryFrame m #[(.int p0), (.int p1), (.int p2), (.int p3), (.int p4)] maxLocals)) t := fun t k => by
          refine pre52 _ ?_
          show Steps p.tables e below (s₁.setTop (mkF m 18 #[.val (.int p0), .val (.int p1), .val (.int p2), .val (.int p3), .val (.int p4), .val (.int p0), .unset, .unset, .unset, .unset, .unset] [(.int (p4 &&& (2 : Int32)))])) _
          refine XS.ifNo X0.here hx rfl (hb hby at_18) rfl ((if0 _ _).trans (feq hc18).1) ?_
          show Steps p.tables e below (s₁.setTop (mkF m 21 #[.val (.int p0), .val (.int p1), .val (.int p2), .val (.int p3), .val (.int p4), .val (.int p0), .unset, .unset, .unset, .unset, .unset] [])) _
          refine XS.iloadN X0.here hx rfl (hb hby at_21) rfl ?_
          show Steps p.tables e below (s₁.setTop (mkF m 22 #[.val (.int p0), .val (.int p1), .val (.int p2), .val (.int p3), .val (.int p4), .val (.int p0), .unset, .unset, .unset, .unset, .unset] [(.int p1)])) _
          refine XS.goto X0.here hx rfl (pc0 := 22) (pc' := 26) rfl (hb hby at_22) (by decide) (by decide) ?_
          show Steps p.tables e below (s₁.setTop (mkF m 26 #[.val (.int p0), .val (.int p1), .val (.int p2), .val (.int p3), .val (.int p4), .val (.int p0), .unset, .unset, .unset, .unset, .unset] [(.int p1)])) _
          refine XS.istore X0.here hx rfl (hb hby at_26) rfl (l' := #[.val (.int p0), .val (.int p1), .val (.int p2), .val (.int p3), .val (.int p4), .val (.int p0), .val (.int p1), .unset, .unset, .unset, .unset]) rfl ?_
          exact k
        exact ⟨p0, p1, s₁, X0, e0, pre54⟩
set_option maxRecDepth 65536 in
set_option maxHeartbeats 40000000 in
theorem comes_1 {Post : Tables → Env → Array Value → State → Outcome → State → Prop} (hpost : ∀ tb e args s v u, (limb_1_1.after args s (.returned v) u = true ∧ limb_1_2.after args s (.returned v) u = true ∧ True) → FrameEnd s (.returned v) u (Jvm.fieldLocs frame_1_writes args s ++ Jvm.arrayLocs frame_1_arrays args s ++ Jvm.staticLocs frame_1_statics s) 16 128 → Post tb e args s (.returned v) u) :
    ArmFor flags0 classFile x code maxLocals ret World_1 tables_1 room_1 Calls_1 rest_1 Pre_1 Post := by
  intro l hfl _ _ p e ha hc hk s m args below hf hA hF happ hP
  obtain ⟨hcalls, hrest, hpre⟩ := hP
  obtain ⟨-, -, -, hnamed, -, -, -, hat⟩ := (Spec.applies_iff hf).mp happ
  obtain ⟨hg, hn⟩ := and_e (Cond.before_iff.mp (show (Jvm.Cond.and given_1 narrow_1).before args s = true from hpre))
  obtain ⟨hcount, hg0⟩ := and_e hg
  obtain ⟨hi0, hg1⟩ := and_e hg0
  obtain ⟨hi1, hg2⟩ := and_e hg1
  obtain ⟨hi2, hg3⟩ := and_e hg2
  obtain ⟨hi3, hg4⟩ := and_e hg3
  have hi4 := hg4
  obtain ⟨w0, w1, w2, w3, w4, rfl⟩ : ∃ w0 w1 w2 w3 w4 : Value, args = #[w0, w1, w2, w3, w4] := by
    have hs : args.size = 5 := by simpa [Cond.value, given_1] using hcount
    obtain ⟨L⟩ := args
    match L, hs with
    | [w0, w1, w2, w3, w4], _ => exact ⟨w0, w1, w2, w3, w4, rfl⟩
  have hw := fun d (hd : d ∈ tables_1) => atoms_spec (ws := Jvm.Cond.code x code maxLocals ret :: tables_1) hat d (List.mem_cons_of_mem _ hd)
  have hfit : Fit s := fun {y c} hc i hi => by
    obtain ⟨ha, rfl⟩ := Array.getElem?_eq_some_iff.mp hc
    have q := List.all_eq_true.mp ((Array.all_eq_true_iff_forall_mem.mp hF) _ (Array.getElem_mem ha)) i (List.mem_range.mpr hi)
    simpa [Array.getElem?_eq_getElem hi] using q
  obtain ⟨hsets, hown0⟩ := atoms_of _ (rest_1_c_eq ▸ (show rest_1_c.before _ s = true from hrest))
  have hr0 := Cond.before_iff.mp hown0
  obtain ⟨i0, ei0⟩ := is_v hi0
  obtain rfl : w0 = (.int i0) := Option.some.inj ei0
  obtain ⟨i1, ei1⟩ := is_v hi1
  obtain rfl : w1 = (.int i1) := Option.some.inj ei1
  obtain ⟨i2, ei2⟩ := is_v hi2
  obtain rfl : w2 = (.int i2) := Option.some.inj ei2
  obtain ⟨i3, ei3⟩ := is_v hi3
  obtain rfl : w3 = (.int i3) := Option.some.inj ei3
  obtain ⟨i4, ei4⟩ := is_v hi4
  obtain rfl : w4 = (.int i4) := Option.some.inj ei4
  have evh := eqv_i (Term.int_eval (127 : Int32)) (Cond.before_iff.mp (hsets _ (List.mem_of_getElem? (i := 3) rfl)))
  have S_high : Sta s s.heap "java/lang/Integer$IntegerCache" "high" "I" (.int (127 : Int32)) := Sta.start evh (Or.inl (hsets _ (List.mem_of_getElem? (i := 1) rfl)))
  have h5 := Cond.before_iff.mp (hsets _ (List.mem_of_getElem? (i := 5) rfl))
  obtain ⟨w, evw⟩ := exa_v h5
  have S_cache : Sta s s.heap "java/lang/Integer$IntegerCache" "cache" "[Ljava/lang/Integer;" (.ref w) := Sta.start evw (Or.inr ⟨(hw _ (List.mem_of_getElem? (i := 25) rfl)), (hsets _ (List.mem_of_getElem? (i := 2) rfl))⟩)
  obtain ⟨cl, Ar⟩ := Arr.start evw (Cond.before_iff.mp (hsets _ (List.mem_of_getElem? (i := 4) rfl)))
  obtain ⟨q1, q2⟩ := Jvm.Free.IntBox.length_fwd (hsets _ (List.mem_of_getElem? (i := 6) rfl)) evw Ar.1 Ar.2.1 Ar.2.2
  have B := Bxs.start (val := fun j => .int (j - (128 : Int32))) (fun idx => evw) Ar q1 q2 (by decide) (Cond.before_iff.mp (hsets _ (List.mem_of_getElem? (i := 7) rfl))) (fun X j nn hX => eqv_i (own_subev j nn) hX)
  obtain ⟨-, B2, -, B4⟩ := B
  have hbx : ¬ (i0 < (-128 : Int32)) → ¬ ((127 : Int32) < i0) → ¬ ((i0 + (128 : Int32)) < 0 ∨ cl.slots.size ≤ (i0 + (128 : Int32)).toNatClampNeg) ∧ ∃ y : Addr, cl.slots[(i0 + (128 : Int32)).toNatClampNeg]? = some (.ref y) ∧ Exa s s.heap y "java/lang/Integer" := fun a b => by
    have hin : ¬ ((i0 + (128 : Int32)) < 0 ∨ cl.slots.size ≤ (i0 + (128 : Int32)).toNatClampNeg) := by rw [B2]; exact (Jvm.Free.IntBox.place_ok i0 a b).1
    obtain ⟨y, y1, y2, -⟩ := B4 _ hin
    exact ⟨hin, y, y1, y2⟩
  obtain ⟨n, o, h1, h2, h3, _, L, rfl, ⟨rfl, N⟩, hq⟩ := rm0 l s _ hw tables_1 i0 i1 i2 i3 i4 w cl s.heap s.heap.size (Nat.le_refl _) S_high S_cache Ar hbx p e ha hc hk s m _ below hf ((Spec.applies_iff_loose hf).mp happ).1 ⟨rfl, State.Warmed39.refl s, rfl⟩ trivial
  refine ⟨n, _, h1, h2, h3, hpost _ _ _ _ _ _ ⟨Cond.after_iff.mpr rfl, Cond.after_iff.mpr (eq_i res_at (Term.int_eval (1)) rfl), trivial⟩ ⟨hq.1, hq.2.1, (hq.2.2.sift fun y hy => Or.inr (N y hy)).mono (by decide) (by decide)⟩⟩
theorem main_1_1 : Claimed_1_1 := comes_1 fun _ _ _ _ _ _ h hF => ⟨h.1, hF⟩
theorem main_1_2 : Claimed_1_2 := comes_1 fun _ _ _ _ _ _ h hF => ⟨h.2.1, hF⟩
end Jvm.Pilot.@@N@@
namespace Jvm.Pilot.@@N@@
open Jvm Jvm.ClassFile Sem Op Lib Jvm.Free Jvm.Stand Jvm.Pilot.@@N@@.Jvm.D
/-! MADE BY PROGRAM (witnessworld.py) out of the Statement's table words and the real class files: 16 classes; the members and pool entries that the words name. The judged class is class 1, her method 1. -/
namespace start1
open Jvm.ClassFile
def u (s : String) : CpInfo := .utf8 (stringToUtf16 s)
/-- a pool by its gaps: so many unusable entries, then the entry; so many at the end -/
def gap : Nat → List CpInfo → List CpInfo
  | 0, r => r
  | n + 1, r => .unusable :: gap n r
def poolList (es : List (Nat × CpInfo)) (last : Nat) : List CpInfo := es.foldr (fun e r => gap e.1 (e.2 :: r)) (gap last [])
def pool (es : List (Nat × CpInfo)) (last : Nat) : Array CpInfo := ⟨poolList es last⟩
def fileOf (pool : Array CpInfo) (this : Nat) (attrs : Array Attribute := #[]) (ms : Array MethodInfo := #[]) (fl : Nat := 33) (sup : Nat := 0) (ifs : Array Nat := #[]) (fds : Array FieldInfo := #[]) : ClassFile where
  minorVersion := 0
  majorVersion := 65
  constantPool := pool
  accessFlags := fl
  thisClass := this
  superClass := sup
  interfaces := ifs
  fields := fds
  methods := ms
  attributes := attrs
def plain (name : String) (sup : Option ClassId) : Class where
  name := name
  kind := .ordinary
  loader := none
  accessFlags := 33
  super := sup
  interfaces := #[]
  cf := none
  fields := #[]
  methods := #[]
  instanceTypes := #[]
  staticTypes := #[]
  resolved := #[]
  callSites := []
  init := .initialized
  statics := none
  mirror := none

def pool0 : Array CpInfo := pool [(5, u "<init>"), (0, u "()V"), (1, .class_ 10), (1, u "java/lang/Object")] 113

def k0c0 : Code := { maxStack := 0, maxLocals := 1, code := object_method_1_code, exceptionTable := #[], attributes := #[] }
def k0m0 : Method := { name := "<init>", desc := "()V", sig := { parameters := [], returnType := none }, accessFlags := 1, code := some k0c0 }
/-- java/lang/Object -/
def k0 : Class := { plain "java/lang/Object" none with
  accessFlags := 33
  interfaces := #[]
  cf := some (fileOf pool0 8 #[] #[{ accessFlags := 1, nameIndex := 5, descriptorIndex := 6, attributes := #[] }] 33 0 #[] #[])
  fields := #[]
  methods := #[k0m0]
  instanceTypes := #[]
  staticTypes := #[]
  resolved := Array.replicate 124 none
  statics := none }

def pool1 : Array CpInfo := pool [(2, .class_ 4), (1, u "java/lang/Object"), (0, u "<init>"), (0, u "()V"), (0, .class_ 8), (0, u "com/example/dalby/dalby/mesh/Cell"), (0, .methodref 7 10), (0, .nameAndType 5 11), (0, u "(II)V"), (0, .methodref 13 14), (0, .class_ 15), (0, .nameAndType 16 17), (0, u "java/lang/Integer"), (0, u "valueOf"), (0, u "(I)Ljava/lang/Integer;"), (0, .methodref 7 19), (0, .nameAndType 20 21), (0, u "equals"), (0, u "(Ljava/lang/Object;)Z"), (0, .class_ 23), (0, u "com/example/dalby/dalby/mesh/CellEqualsPinLaw"), (2, u "law"), (0, u "(IIIII)Z")] 3

def k1m0 : Method := { name := "<init>", desc := "()V", sig := { parameters := [], returnType := none }, accessFlags := 1, code := none }
def k1c1 : Code := { maxStack := 4, maxLocals := 11, code := code, exceptionTable := #[], attributes := #[] }
def k1m1 : Method := { name := "law", desc := "(IIIII)Z", sig := { parameters := [.int, .int, .int, .int, .int], returnType := some .boolean }, accessFlags := 9, code := some k1c1 }
/-- com/example/dalby/dalby/mesh/CellEqualsPinLaw -/
def k1 : Class := { plain "com/example/dalby/dalby/mesh/CellEqualsPinLaw" (some 0) with
  accessFlags := 49
  interfaces := #[]
  cf := some (fileOf pool1 22 #[] #[{ accessFlags := 1, nameIndex := 5, descriptorIndex := 6, attributes := #[] }, { accessFlags := 9, nameIndex := 26, descriptorIndex := 27, attributes := #[] }] 49 2 #[] #[])
  fields := #[]
  methods := #[k1m0, k1m1]
  instanceTypes := #[]
  staticTypes := #[]
  resolved := Array.replicate 31 none
  statics := none }

def pool2 : Array CpInfo := pool [(1, .methodref 2 3), (0, .class_ 4), (0, .nameAndType 5 6), (0, u "java/lang/Object"), (0, u "<init>"), (0, u "()V"), (0, .fieldref 8 9), (0, .class_ 10), (0, .nameAndType 11 12), (0, u "com/example/dalby/dalby/mesh/Cell"), (0, u "x"), (0, u "I"), (0, .fieldref 8 14), (0, .nameAndType 15 12), (0, u "y"), (17, u "(II)V"), (11, u "equals"), (0, u "(Ljava/lang/Object;)Z")] 20

def k2c0 : Code := { maxStack := 2, maxLocals := 3, code := prog_30_method_1_code, exceptionTable := #[], attributes := #[] }
def k2m0 : Method := { name := "<init>", desc := "(II)V", sig := { parameters := [.int, .int], returnType := none }, accessFlags := 1, code := some k2c0 }
def k2c1 : Code := { maxStack := 2, maxLocals := 3, code := prog_30_method_6_code, exceptionTable := #[], attributes := #[] }
def k2m1 : Method := { name := "equals", desc := "(Ljava/lang/Object;)Z", sig := { parameters := [(.object "java/lang/Object")], returnType := some .boolean }, accessFlags := 1, code := some k2c1 }
/-- com/example/dalby/dalby/mesh/Cell -/
def k2 : Class := { plain "com/example/dalby/dalby/mesh/Cell" (some 0) with
  accessFlags := 49
  interfaces := #[]
  cf := some (fileOf pool2 8 #[] #[{ accessFlags := 1, nameIndex := 5, descriptorIndex := 33, attributes := #[] }, { accessFlags := 1, nameIndex := 45, descriptorIndex := 46, attributes := #[] }] 49 2 #[] #[{ accessFlags := 18, nameIndex := 11, descriptorIndex := 12, attributes := #[] }, { accessFlags := 18, nameIndex := 15, descriptorIndex := 12, attributes := #[] }])
  fields := #[{ name := "x", type := .int, accessFlags := 18, slot := 0, constantValue := 0 }, { name := "y", type := .int, accessFlags := 18, slot := 1, constantValue := 0 }]
  methods := #[k2m0, k2m1]
  instanceTypes := #[.int, .int]
  staticTypes := #[]
  resolved := Array.replicate 67 none
  statics := none }

def pool3 : Array CpInfo := pool [(1, .class_ 2), (0, u "java/io/Serializable"), (0, .class_ 4), (0, u "java/lang/Object")] 2

/-- java/io/Serializable -/
def k3 : Class := { plain "java/io/Serializable" (some 0) with
  accessFlags := 1537
  interfaces := #[]
  cf := some (fileOf pool3 1 #[] #[] 1537 3 #[] #[])
  fields := #[]
  methods := #[]
  instanceTypes := #[]
  staticTypes := #[]
  resolved := Array.replicate 7 none
  statics := none }

def pool4 : Array CpInfo := pool [(1, .methodref 2 3), (0, .class_ 4), (0, .nameAndType 5 6), (0, u "java/lang/Object"), (0, u "<init>"), (0, u "()V"), (1, .class_ 10), (1, u "java/lang/Number"), (2, .class_ 14), (0, u "java/io/Serializable"), (0, u "serialVersionUID"), (0, u "J")] 20

def k4c0 : Code := { maxStack := 1, maxLocals := 1, code := jdk_18_method_1_code, exceptionTable := #[], attributes := #[] }
def k4m0 : Method := { name := "<init>", desc := "()V", sig := { parameters := [], returnType := none }, accessFlags := 1, code := some k4c0 }
/-- java/lang/Number -/
def k4 : Class := { plain "java/lang/Number" (some 0) with
  accessFlags := 1057
  interfaces := #[3]
  cf := some (fileOf pool4 8 #[] #[{ accessFlags := 1, nameIndex := 5, descriptorIndex := 6, attributes := #[] }] 1057 2 #[13] #[{ accessFlags := 26, nameIndex := 15, descriptorIndex := 16, attributes := #[] }])
  fields := #[{ name := "serialVersionUID", type := .long, accessFlags := 26, slot := 0, constantValue := 0 }]
  methods := #[k4m0]
  instanceTypes := #[]
  staticTypes := #[.long]
  resolved := Array.replicate 37 none
  statics := none }

def pool5 : Array CpInfo := pool [(1, .class_ 2), (0, u "java/lang/Comparable"), (0, .class_ 4), (0, u "java/lang/Object")] 7

/-- java/lang/Comparable -/
def k5 : Class := { plain "java/lang/Comparable" (some 0) with
  accessFlags := 1537
  interfaces := #[]
  cf := some (fileOf pool5 1 #[] #[] 1537 3 #[] #[])
  fields := #[]
  methods := #[]
  instanceTypes := #[]
  staticTypes := #[]
  resolved := Array.replicate 12 none
  statics := none }

def pool6 : Array CpInfo := pool [(1, .class_ 2), (0, u "java/lang/constant/Constable"), (0, .class_ 4), (0, u "java/lang/Object")] 6

/-- java/lang/constant/Constable -/
def k6 : Class := { plain "java/lang/constant/Constable" (some 0) with
  accessFlags := 1537
  interfaces := #[]
  cf := some (fileOf pool6 1 #[] #[] 1537 3 #[] #[])
  fields := #[]
  methods := #[]
  instanceTypes := #[]
  staticTypes := #[]
  resolved := Array.replicate 11 none
  statics := none }

def pool7 : Array CpInfo := pool [(1, .class_ 2), (0, u "java/lang/constant/ConstantDesc"), (0, .class_ 4), (0, u "java/lang/Object")] 32

/-- java/lang/constant/ConstantDesc -/
def k7 : Class := { plain "java/lang/constant/ConstantDesc" (some 0) with
  accessFlags := 1537
  interfaces := #[]
  cf := some (fileOf pool7 1 #[] #[] 1537 3 #[] #[])
  fields := #[]
  methods := #[]
  instanceTypes := #[]
  staticTypes := #[]
  resolved := Array.replicate 37 none
  statics := none }

def pool8 : Array CpInfo := pool [(1, .class_ 2), (0, u "java/lang/Integer"), (16, u "digits"), (0, u "[C"), (46, u "<init>"), (17, u "DigitOnes"), (0, u "[B"), (2, u "DigitTens"), (10, .nameAndType 67 101), (0, u "()V"), (85, u "valueOf"), (0, u "(I)Ljava/lang/Integer;"), (0, .class_ 190), (0, u "java/lang/Integer$IntegerCache"), (0, .fieldref 189 192), (0, .nameAndType 193 194), (0, u "high"), (0, u "I"), (0, .fieldref 189 196), (0, .nameAndType 197 198), (0, u "cache"), (0, u "[Ljava/lang/Integer;"), (0, .methodref 1 200), (0, .nameAndType 67 201), (0, u "(I)V"), (0, .methodref 203 100), (0, .class_ 204), (0, u "java/lang/Number"), (0, .fieldref 1 206), (0, .nameAndType 207 194), (0, u "value"), (94, u "TYPE"), (0, u "Ljava/lang/Class;"), (0, .class_ 305), (0, u "java/lang/Comparable"), (0, .class_ 307), (0, u "java/lang/constant/Constable"), (0, .class_ 309), (0, u "java/lang/constant/ConstantDesc"), (0, u "MIN_VALUE"), (1, u "MAX_VALUE"), (3, u "SIZE"), (1, u "BYTES"), (1, u "serialVersionUID"), (0, u "J")] 131

def k8c0 : Code := { maxStack := 3, maxLocals := 1, code := jdk_33_method_22_code, exceptionTable := #[], attributes := #[] }
def k8m0 : Method := { name := "valueOf", desc := "(I)Ljava/lang/Integer;", sig := { parameters := [.int], returnType := some (.object "java/lang/Integer") }, accessFlags := 9, code := some k8c0 }
def k8c1 : Code := { maxStack := 2, maxLocals := 2, code := jdk_33_method_23_code, exceptionTable := #[], attributes := #[] }
def k8m1 : Method := { name := "<init>", desc := "(I)V", sig := { parameters := [.int], returnType := none }, accessFlags := 1, code := some k8c1 }
/-- java/lang/Integer -/
def k8 : Class := { plain "java/lang/Integer" (some 4) with
  accessFlags := 49
  interfaces := #[5, 6, 7]
  cf := some (fileOf pool8 1 #[.nestMembers #[189]] #[{ accessFlags := 9, nameIndex := 187, descriptorIndex := 188, attributes := #[] }, { accessFlags := 1, nameIndex := 67, descriptorIndex := 201, attributes := #[] }] 49 203 #[304, 306, 308] #[{ accessFlags := 25, nameIndex := 310, descriptorIndex := 194, attributes := #[] }, { accessFlags := 25, nameIndex := 312, descriptorIndex := 194, attributes := #[] }, { accessFlags := 25, nameIndex := 302, descriptorIndex := 303, attributes := #[] }, { accessFlags := 24, nameIndex := 19, descriptorIndex := 20, attributes := #[] }, { accessFlags := 24, nameIndex := 89, descriptorIndex := 86, attributes := #[] }, { accessFlags := 24, nameIndex := 85, descriptorIndex := 86, attributes := #[] }, { accessFlags := 18, nameIndex := 207, descriptorIndex := 194, attributes := #[] }, { accessFlags := 25, nameIndex := 316, descriptorIndex := 194, attributes := #[] }, { accessFlags := 25, nameIndex := 318, descriptorIndex := 194, attributes := #[] }, { accessFlags := 26, nameIndex := 320, descriptorIndex := 321, attributes := #[] }])
  fields := #[{ name := "MIN_VALUE", type := .int, accessFlags := 25, slot := 0, constantValue := 0 }, { name := "MAX_VALUE", type := .int, accessFlags := 25, slot := 1, constantValue := 0 }, { name := "TYPE", type := (.object "java/lang/Class"), accessFlags := 25, slot := 2, constantValue := 0 }, { name := "digits", type := (.array .char), accessFlags := 24, slot := 3, constantValue := 0 }, { name := "DigitTens", type := (.array .byte), accessFlags := 24, slot := 4, constantValue := 0 }, { name := "DigitOnes", type := (.array .byte), accessFlags := 24, slot := 5, constantValue := 0 }, { name := "value", type := .int, accessFlags := 18, slot := 0, constantValue := 0 }, { name := "SIZE", type := .int, accessFlags := 25, slot := 6, constantValue := 0 }, { name := "BYTES", type := .int, accessFlags := 25, slot := 7, constantValue := 0 }, { name := "serialVersionUID", type := .long, accessFlags := 26, slot := 8, constantValue := 0 }]
  methods := #[k8m0, k8m1]
  instanceTypes := #[.int]
  staticTypes := #[.int, .int, (.object "java/lang/Class"), (.array .char), (.array .byte), (.array .byte), .int, .int, .long]
  resolved := Array.replicate 453 none
  statics := none }

def pool9 : Array CpInfo := pool [(2, .class_ 4), (1, u "java/lang/Object"), (0, u "<init>"), (0, u "()V"), (0, .class_ 8), (0, u "java/lang/Integer"), (7, .class_ 18), (1, u "java/lang/Integer$IntegerCache"), (0, u "$assertionsDisabled"), (0, u "Z"), (26, u "high"), (0, u "I"), (8, u "archivedCache"), (0, u "[Ljava/lang/Integer;"), (12, u "cache"), (0, u "low")] 27

def k9m0 : Method := { name := "<init>", desc := "()V", sig := { parameters := [], returnType := none }, accessFlags := 2, code := none }
/-- java/lang/Integer$IntegerCache -/
def k9 : Class := { plain "java/lang/Integer$IntegerCache" (some 0) with
  accessFlags := 48
  interfaces := #[]
  cf := some (fileOf pool9 16 #[.nestHost 7] #[{ accessFlags := 2, nameIndex := 5, descriptorIndex := 6, attributes := #[] }] 48 2 #[] #[{ accessFlags := 24, nameIndex := 72, descriptorIndex := 48, attributes := #[] }, { accessFlags := 24, nameIndex := 47, descriptorIndex := 48, attributes := #[] }, { accessFlags := 24, nameIndex := 71, descriptorIndex := 58, attributes := #[] }, { accessFlags := 8, nameIndex := 57, descriptorIndex := 58, attributes := #[] }, { accessFlags := 4120, nameIndex := 19, descriptorIndex := 20, attributes := #[] }])
  fields := #[{ name := "low", type := .int, accessFlags := 24, slot := 0, constantValue := 0 }, { name := "high", type := .int, accessFlags := 24, slot := 1, constantValue := 0 }, { name := "cache", type := (.array (.object "java/lang/Integer")), accessFlags := 24, slot := 2, constantValue := 0 }, { name := "archivedCache", type := (.array (.object "java/lang/Integer")), accessFlags := 8, slot := 3, constantValue := 0 }, { name := "$assertionsDisabled", type := .boolean, accessFlags := 4120, slot := 4, constantValue := 0 }]
  methods := #[k9m0]
  instanceTypes := #[]
  staticTypes := #[.int, .int, (.array (.object "java/lang/Integer")), (.array (.object "java/lang/Integer")), .boolean]
  resolved := Array.replicate 100 none
  statics := some 0 }

def pool10 : Array CpInfo := pool [(1, u "java/lang/Cloneable"), (0, .class_ 1), (0, u "java/lang/Object"), (0, .class_ 3)] 3

/-- java/lang/Cloneable -/
def k10 : Class := { plain "java/lang/Cloneable" (some 0) with
  accessFlags := 1537
  interfaces := #[]
  cf := some (fileOf pool10 2 #[] #[] 1537 4 #[] #[])
  fields := #[]
  methods := #[]
  instanceTypes := #[]
  staticTypes := #[]
  resolved := Array.replicate 8 none
  statics := none }

/-- the primitive byte -/
def k11 : Class := { plain "byte" none with kind := .primitive 'B', accessFlags := 0x411 }
/-- [B -/
def k12 : Class := { plain "[B" (some 0) with kind := .array 11 .byte, interfaces := #[10, 3], accessFlags := 1041 }

/-- the primitive int -/
def k13 : Class := { plain "int" none with kind := .primitive 'I', accessFlags := 0x411 }
/-- [I -/
def k14 : Class := { plain "[I" (some 0) with kind := .array 13 .int, interfaces := #[10, 3], accessFlags := 1041 }

/-- [Ljava/lang/Integer; -/
def k15 : Class := { plain "[Ljava/lang/Integer;" (some 0) with kind := .array 8 (.object "java/lang/Integer"), interfaces := #[10, 3], accessFlags := 1041 }

def heap : Heap := #[{ cls := 9, slots := #[.int 0, .int 127, .ref 1, .null, .int 0], vm := .statics 9 },
  { cls := 15, slots := #[.ref 2, .ref 3, .ref 4, .ref 5, .ref 6, .ref 7, .ref 8, .ref 9, .ref 10, .ref 11, .ref 12, .ref 13, .ref 14, .ref 15, .ref 16, .ref 17, .ref 18, .ref 19, .ref 20, .ref 21, .ref 22, .ref 23, .ref 24, .ref 25, .ref 26, .ref 27, .ref 28, .ref 29, .ref 30, .ref 31, .ref 32, .ref 33, .ref 34, .ref 35, .ref 36, .ref 37, .ref 38, .ref 39, .ref 40, .ref 41, .ref 42, .ref 43, .ref 44, .ref 45, .ref 46, .ref 47, .ref 48, .ref 49, .ref 50, .ref 51, .ref 52, .ref 53, .ref 54, .ref 55, .ref 56, .ref 57, .ref 58, .ref 59, .ref 60, .ref 61, .ref 62, .ref 63, .ref 64, .ref 65, .ref 66, .ref 67, .ref 68, .ref 69, .ref 70, .ref 71, .ref 72, .ref 73, .ref 74, .ref 75, .ref 76, .ref 77, .ref 78, .ref 79, .ref 80, .ref 81, .ref 82, .ref 83, .ref 84, .ref 85, .ref 86, .ref 87, .ref 88, .ref 89, .ref 90, .ref 91, .ref 92, .ref 93, .ref 94, .ref 95, .ref 96, .ref 97, .ref 98, .ref 99, .ref 100, .ref 101, .ref 102, .ref 103, .ref 104, .ref 105, .ref 106, .ref 107, .ref 108, .ref 109, .ref 110, .ref 111, .ref 112, .ref 113, .ref 114, .ref 115, .ref 116, .ref 117, .ref 118, .ref 119, .ref 120, .ref 121, .ref 122, .ref 123, .ref 124, .ref 125, .ref 126, .ref 127, .ref 128, .ref 129, .ref 130, .ref 131, .ref 132, .ref 133, .ref 134, .ref 135, .ref 136, .ref 137, .ref 138, .ref 139, .ref 140, .ref 141, .ref 142, .ref 143, .ref 144, .ref 145, .ref 146, .ref 147, .ref 148, .ref 149, .ref 150, .ref 151, .ref 152, .ref 153, .ref 154, .ref 155, .ref 156, .ref 157, .ref 158, .ref 159, .ref 160, .ref 161, .ref 162, .ref 163, .ref 164, .ref 165, .ref 166, .ref 167, .ref 168, .ref 169, .ref 170, .ref 171, .ref 172, .ref 173, .ref 174, .ref 175, .ref 176, .ref 177, .ref 178, .ref 179, .ref 180, .ref 181, .ref 182, .ref 183, .ref 184, .ref 185, .ref 186, .ref 187, .ref 188, .ref 189, .ref 190, .ref 191, .ref 192, .ref 193, .ref 194, .ref 195, .ref 196, .ref 197, .ref 198, .ref 199, .ref 200, .ref 201, .ref 202, .ref 203, .ref 204, .ref 205, .ref 206, .ref 207, .ref 208, .ref 209, .ref 210, .ref 211, .ref 212, .ref 213, .ref 214, .ref 215, .ref 216, .ref 217, .ref 218, .ref 219, .ref 220, .ref 221, .ref 222, .ref 223, .ref 224, .ref 225, .ref 226, .ref 227, .ref 228, .ref 229, .ref 230, .ref 231, .ref 232, .ref 233, .ref 234, .ref 235, .ref 236, .ref 237, .ref 238, .ref 239, .ref 240, .ref 241, .ref 242, .ref 243, .ref 244, .ref 245, .ref 246, .ref 247, .ref 248, .ref 249, .ref 250, .ref 251, .ref 252, .ref 253, .ref 254, .ref 255, .ref 256, .ref 257], vm := .none },
  { cls := 8, slots := #[.int (-128)], vm := .none },
  { cls := 8, slots := #[.int (-127)], vm := .none },
  { cls := 8, slots := #[.int (-126)], vm := .none },
  { cls := 8, slots := #[.int (-125)], vm := .none },
  { cls := 8, slots := #[.int (-124)], vm := .none },
  { cls := 8, slots := #[.int (-123)], vm := .none },
  { cls := 8, slots := #[.int (-122)], vm := .none },
  { cls := 8, slots := #[.int (-121)], vm := .none },
  { cls := 8, slots := #[.int (-120)], vm := .none },
  { cls := 8, slots := #[.int (-119)], vm := .none },
  { cls := 8, slots := #[.int (-118)], vm := .none },
  { cls := 8, slots := #[.int (-117)], vm := .none },
  { cls := 8, slots := #[.int (-116)], vm := .none },
  { cls := 8, slots := #[.int (-115)], vm := .none },
  { cls := 8, slots := #[.int (-114)], vm := .none },
  { cls := 8, slots := #[.int (-113)], vm := .none },
  { cls := 8, slots := #[.int (-112)], vm := .none },
  { cls := 8, slots := #[.int (-111)], vm := .none },
  { cls := 8, slots := #[.int (-110)], vm := .none },
  { cls := 8, slots := #[.int (-109)], vm := .none },
  { cls := 8, slots := #[.int (-108)], vm := .none },
  { cls := 8, slots := #[.int (-107)], vm := .none },
  { cls := 8, slots := #[.int (-106)], vm := .none },
  { cls := 8, slots := #[.int (-105)], vm := .none },
  { cls := 8, slots := #[.int (-104)], vm := .none },
  { cls := 8, slots := #[.int (-103)], vm := .none },
  { cls := 8, slots := #[.int (-102)], vm := .none },
  { cls := 8, slots := #[.int (-101)], vm := .none },
  { cls := 8, slots := #[.int (-100)], vm := .none },
  { cls := 8, slots := #[.int (-99)], vm := .none },
  { cls := 8, slots := #[.int (-98)], vm := .none },
  { cls := 8, slots := #[.int (-97)], vm := .none },
  { cls := 8, slots := #[.int (-96)], vm := .none },
  { cls := 8, slots := #[.int (-95)], vm := .none },
  { cls := 8, slots := #[.int (-94)], vm := .none },
  { cls := 8, slots := #[.int (-93)], vm := .none },
  { cls := 8, slots := #[.int (-92)], vm := .none },
  { cls := 8, slots := #[.int (-91)], vm := .none },
  { cls := 8, slots := #[.int (-90)], vm := .none },
  { cls := 8, slots := #[.int (-89)], vm := .none },
  { cls := 8, slots := #[.int (-88)], vm := .none },
  { cls := 8, slots := #[.int (-87)], vm := .none },
  { cls := 8, slots := #[.int (-86)], vm := .none },
  { cls := 8, slots := #[.int (-85)], vm := .none },
  { cls := 8, slots := #[.int (-84)], vm := .none },
  { cls := 8, slots := #[.int (-83)], vm := .none },
  { cls := 8, slots := #[.int (-82)], vm := .none },
  { cls := 8, slots := #[.int (-81)], vm := .none },
  { cls := 8, slots := #[.int (-80)], vm := .none },
  { cls := 8, slots := #[.int (-79)], vm := .none },
  { cls := 8, slots := #[.int (-78)], vm := .none },
  { cls := 8, slots := #[.int (-77)], vm := .none },
  { cls := 8, slots := #[.int (-76)], vm := .none },
  { cls := 8, slots := #[.int (-75)], vm := .none },
  { cls := 8, slots := #[.int (-74)], vm := .none },
  { cls := 8, slots := #[.int (-73)], vm := .none },
  { cls := 8, slots := #[.int (-72)], vm := .none },
  { cls := 8, slots := #[.int (-71)], vm := .none },
  { cls := 8, slots := #[.int (-70)], vm := .none },
  { cls := 8, slots := #[.int (-69)], vm := .none },
  { cls := 8, slots := #[.int (-68)], vm := .none },
  { cls := 8, slots := #[.int (-67)], vm := .none },
  { cls := 8, slots := #[.int (-66)], vm := .none },
  { cls := 8, slots := #[.int (-65)], vm := .none },
  { cls := 8, slots := #[.int (-64)], vm := .none },
  { cls := 8, slots := #[.int (-63)], vm := .none },
  { cls := 8, slots := #[.int (-62)], vm := .none },
  { cls := 8, slots := #[.int (-61)], vm := .none },
  { cls := 8, slots := #[.int (-60)], vm := .none },
  { cls := 8, slots := #[.int (-59)], vm := .none },
  { cls := 8, slots := #[.int (-58)], vm := .none },
  { cls := 8, slots := #[.int (-57)], vm := .none },
  { cls := 8, slots := #[.int (-56)], vm := .none },
  { cls := 8, slots := #[.int (-55)], vm := .none },
  { cls := 8, slots := #[.int (-54)], vm := .none },
  { cls := 8, slots := #[.int (-53)], vm := .none },
  { cls := 8, slots := #[.int (-52)], vm := .none },
  { cls := 8, slots := #[.int (-51)], vm := .none },
  { cls := 8, slots := #[.int (-50)], vm := .none },
  { cls := 8, slots := #[.int (-49)], vm := .none },
  { cls := 8, slots := #[.int (-48)], vm := .none },
  { cls := 8, slots := #[.int (-47)], vm := .none },
  { cls := 8, slots := #[.int (-46)], vm := .none },
  { cls := 8, slots := #[.int (-45)], vm := .none },
  { cls := 8, slots := #[.int (-44)], vm := .none },
  { cls := 8, slots := #[.int (-43)], vm := .none },
  { cls := 8, slots := #[.int (-42)], vm := .none },
  { cls := 8, slots := #[.int (-41)], vm := .none },
  { cls := 8, slots := #[.int (-40)], vm := .none },
  { cls := 8, slots := #[.int (-39)], vm := .none },
  { cls := 8, slots := #[.int (-38)], vm := .none },
  { cls := 8, slots := #[.int (-37)], vm := .none },
  { cls := 8, slots := #[.int (-36)], vm := .none },
  { cls := 8, slots := #[.int (-35)], vm := .none },
  { cls := 8, slots := #[.int (-34)], vm := .none },
  { cls := 8, slots := #[.int (-33)], vm := .none },
  { cls := 8, slots := #[.int (-32)], vm := .none },
  { cls := 8, slots := #[.int (-31)], vm := .none },
  { cls := 8, slots := #[.int (-30)], vm := .none },
  { cls := 8, slots := #[.int (-29)], vm := .none },
  { cls := 8, slots := #[.int (-28)], vm := .none },
  { cls := 8, slots := #[.int (-27)], vm := .none },
  { cls := 8, slots := #[.int (-26)], vm := .none },
  { cls := 8, slots := #[.int (-25)], vm := .none },
  { cls := 8, slots := #[.int (-24)], vm := .none },
  { cls := 8, slots := #[.int (-23)], vm := .none },
  { cls := 8, slots := #[.int (-22)], vm := .none },
  { cls := 8, slots := #[.int (-21)], vm := .none },
  { cls := 8, slots := #[.int (-20)], vm := .none },
  { cls := 8, slots := #[.int (-19)], vm := .none },
  { cls := 8, slots := #[.int (-18)], vm := .none },
  { cls := 8, slots := #[.int (-17)], vm := .none },
  { cls := 8, slots := #[.int (-16)], vm := .none },
  { cls := 8, slots := #[.int (-15)], vm := .none },
  { cls := 8, slots := #[.int (-14)], vm := .none },
  { cls := 8, slots := #[.int (-13)], vm := .none },
  { cls := 8, slots := #[.int (-12)], vm := .none },
  { cls := 8, slots := #[.int (-11)], vm := .none },
  { cls := 8, slots := #[.int (-10)], vm := .none },
  { cls := 8, slots := #[.int (-9)], vm := .none },
  { cls := 8, slots := #[.int (-8)], vm := .none },
  { cls := 8, slots := #[.int (-7)], vm := .none },
  { cls := 8, slots := #[.int (-6)], vm := .none },
  { cls := 8, slots := #[.int (-5)], vm := .none },
  { cls := 8, slots := #[.int (-4)], vm := .none },
  { cls := 8, slots := #[.int (-3)], vm := .none },
  { cls := 8, slots := #[.int (-2)], vm := .none },
  { cls := 8, slots := #[.int (-1)], vm := .none },
  { cls := 8, slots := #[.int (0)], vm := .none },
  { cls := 8, slots := #[.int (1)], vm := .none },
  { cls := 8, slots := #[.int (2)], vm := .none },
  { cls := 8, slots := #[.int (3)], vm := .none },
  { cls := 8, slots := #[.int (4)], vm := .none },
  { cls := 8, slots := #[.int (5)], vm := .none },
  { cls := 8, slots := #[.int (6)], vm := .none },
  { cls := 8, slots := #[.int (7)], vm := .none },
  { cls := 8, slots := #[.int (8)], vm := .none },
  { cls := 8, slots := #[.int (9)], vm := .none },
  { cls := 8, slots := #[.int (10)], vm := .none },
  { cls := 8, slots := #[.int (11)], vm := .none },
  { cls := 8, slots := #[.int (12)], vm := .none },
  { cls := 8, slots := #[.int (13)], vm := .none },
  { cls := 8, slots := #[.int (14)], vm := .none },
  { cls := 8, slots := #[.int (15)], vm := .none },
  { cls := 8, slots := #[.int (16)], vm := .none },
  { cls := 8, slots := #[.int (17)], vm := .none },
  { cls := 8, slots := #[.int (18)], vm := .none },
  { cls := 8, slots := #[.int (19)], vm := .none },
  { cls := 8, slots := #[.int (20)], vm := .none },
  { cls := 8, slots := #[.int (21)], vm := .none },
  { cls := 8, slots := #[.int (22)], vm := .none },
  { cls := 8, slots := #[.int (23)], vm := .none },
  { cls := 8, slots := #[.int (24)], vm := .none },
  { cls := 8, slots := #[.int (25)], vm := .none },
  { cls := 8, slots := #[.int (26)], vm := .none },
  { cls := 8, slots := #[.int (27)], vm := .none },
  { cls := 8, slots := #[.int (28)], vm := .none },
  { cls := 8, slots := #[.int (29)], vm := .none },
  { cls := 8, slots := #[.int (30)], vm := .none },
  { cls := 8, slots := #[.int (31)], vm := .none },
  { cls := 8, slots := #[.int (32)], vm := .none },
  { cls := 8, slots := #[.int (33)], vm := .none },
  { cls := 8, slots := #[.int (34)], vm := .none },
  { cls := 8, slots := #[.int (35)], vm := .none },
  { cls := 8, slots := #[.int (36)], vm := .none },
  { cls := 8, slots := #[.int (37)], vm := .none },
  { cls := 8, slots := #[.int (38)], vm := .none },
  { cls := 8, slots := #[.int (39)], vm := .none },
  { cls := 8, slots := #[.int (40)], vm := .none },
  { cls := 8, slots := #[.int (41)], vm := .none },
  { cls := 8, slots := #[.int (42)], vm := .none },
  { cls := 8, slots := #[.int (43)], vm := .none },
  { cls := 8, slots := #[.int (44)], vm := .none },
  { cls := 8, slots := #[.int (45)], vm := .none },
  { cls := 8, slots := #[.int (46)], vm := .none },
  { cls := 8, slots := #[.int (47)], vm := .none },
  { cls := 8, slots := #[.int (48)], vm := .none },
  { cls := 8, slots := #[.int (49)], vm := .none },
  { cls := 8, slots := #[.int (50)], vm := .none },
  { cls := 8, slots := #[.int (51)], vm := .none },
  { cls := 8, slots := #[.int (52)], vm := .none },
  { cls := 8, slots := #[.int (53)], vm := .none },
  { cls := 8, slots := #[.int (54)], vm := .none },
  { cls := 8, slots := #[.int (55)], vm := .none },
  { cls := 8, slots := #[.int (56)], vm := .none },
  { cls := 8, slots := #[.int (57)], vm := .none },
  { cls := 8, slots := #[.int (58)], vm := .none },
  { cls := 8, slots := #[.int (59)], vm := .none },
  { cls := 8, slots := #[.int (60)], vm := .none },
  { cls := 8, slots := #[.int (61)], vm := .none },
  { cls := 8, slots := #[.int (62)], vm := .none },
  { cls := 8, slots := #[.int (63)], vm := .none },
  { cls := 8, slots := #[.int (64)], vm := .none },
  { cls := 8, slots := #[.int (65)], vm := .none },
  { cls := 8, slots := #[.int (66)], vm := .none },
  { cls := 8, slots := #[.int (67)], vm := .none },
  { cls := 8, slots := #[.int (68)], vm := .none },
  { cls := 8, slots := #[.int (69)], vm := .none },
  { cls := 8, slots := #[.int (70)], vm := .none },
  { cls := 8, slots := #[.int (71)], vm := .none },
  { cls := 8, slots := #[.int (72)], vm := .none },
  { cls := 8, slots := #[.int (73)], vm := .none },
  { cls := 8, slots := #[.int (74)], vm := .none },
  { cls := 8, slots := #[.int (75)], vm := .none },
  { cls := 8, slots := #[.int (76)], vm := .none },
  { cls := 8, slots := #[.int (77)], vm := .none },
  { cls := 8, slots := #[.int (78)], vm := .none },
  { cls := 8, slots := #[.int (79)], vm := .none },
  { cls := 8, slots := #[.int (80)], vm := .none },
  { cls := 8, slots := #[.int (81)], vm := .none },
  { cls := 8, slots := #[.int (82)], vm := .none },
  { cls := 8, slots := #[.int (83)], vm := .none },
  { cls := 8, slots := #[.int (84)], vm := .none },
  { cls := 8, slots := #[.int (85)], vm := .none },
  { cls := 8, slots := #[.int (86)], vm := .none },
  { cls := 8, slots := #[.int (87)], vm := .none },
  { cls := 8, slots := #[.int (88)], vm := .none },
  { cls := 8, slots := #[.int (89)], vm := .none },
  { cls := 8, slots := #[.int (90)], vm := .none },
  { cls := 8, slots := #[.int (91)], vm := .none },
  { cls := 8, slots := #[.int (92)], vm := .none },
  { cls := 8, slots := #[.int (93)], vm := .none },
  { cls := 8, slots := #[.int (94)], vm := .none },
  { cls := 8, slots := #[.int (95)], vm := .none },
  { cls := 8, slots := #[.int (96)], vm := .none },
  { cls := 8, slots := #[.int (97)], vm := .none },
  { cls := 8, slots := #[.int (98)], vm := .none },
  { cls := 8, slots := #[.int (99)], vm := .none },
  { cls := 8, slots := #[.int (100)], vm := .none },
  { cls := 8, slots := #[.int (101)], vm := .none },
  { cls := 8, slots := #[.int (102)], vm := .none },
  { cls := 8, slots := #[.int (103)], vm := .none },
  { cls := 8, slots := #[.int (104)], vm := .none },
  { cls := 8, slots := #[.int (105)], vm := .none },
  { cls := 8, slots := #[.int (106)], vm := .none },
  { cls := 8, slots := #[.int (107)], vm := .none },
  { cls := 8, slots := #[.int (108)], vm := .none },
  { cls := 8, slots := #[.int (109)], vm := .none },
  { cls := 8, slots := #[.int (110)], vm := .none },
  { cls := 8, slots := #[.int (111)], vm := .none },
  { cls := 8, slots := #[.int (112)], vm := .none },
  { cls := 8, slots := #[.int (113)], vm := .none },
  { cls := 8, slots := #[.int (114)], vm := .none },
  { cls := 8, slots := #[.int (115)], vm := .none },
  { cls := 8, slots := #[.int (116)], vm := .none },
  { cls := 8, slots := #[.int (117)], vm := .none },
  { cls := 8, slots := #[.int (118)], vm := .none },
  { cls := 8, slots := #[.int (119)], vm := .none },
  { cls := 8, slots := #[.int (120)], vm := .none },
  { cls := 8, slots := #[.int (121)], vm := .none },
  { cls := 8, slots := #[.int (122)], vm := .none },
  { cls := 8, slots := #[.int (123)], vm := .none },
  { cls := 8, slots := #[.int (124)], vm := .none },
  { cls := 8, slots := #[.int (125)], vm := .none },
  { cls := 8, slots := #[.int (126)], vm := .none },
  { cls := 8, slots := #[.int (127)], vm := .none }]
def classes : Array Class := #[k0, k1, k2, k3, k4, k5, k6, k7, k8, k9, k10, k11, k12, k13, k14, k15]
def interned : List (Array UInt16 × Addr) := []
def slotsUsed : Nat := 517
def theMethod : MethodId := ⟨1, 1⟩
def args0 : Array Value := #[.int 300, .int 4, .int 5, .int 6, .int 12]
def aboutOver (below : List Frame) : State where
  vm := { classes := classes, interned := interned.toArray }
  heap := heap
  slotsUsed := slotsUsed
  threads := #[{ frames := .invoking theMethod args0 :: below }]
def below0 : List Frame := [.native { method := ⟨0, 0⟩, args := #[] }]
def about1 : State := aboutOver below0
def p0 : Program := .bare "" "" ""
def e0 : Env := launch0.env 0 0 0
theorem w_frames : about1.frames = Frame.invoking theMethod args0 :: below0 := rfl
set_option maxRecDepth 65536 in
theorem w_args : argsFit about1.vm theMethod args0 = true := by decide +kernel
set_option maxRecDepth 65536 in
theorem w_heap : heapFits about1 = true := by decide +kernel
set_option maxRecDepth 65536 in
theorem w_runnable : about1.curStatus? = some .runnable := by decide +kernel
set_option maxRecDepth 65536 in
theorem w_alone : about1.alone = true := by decide +kernel
set_option maxRecDepth 65536 in
theorem w_named : about1.methodNamed? x = some theMethod := by decide +kernel
set_option maxRecDepth 65536 in
theorem w_hears : about1.hears theMethod below0 = true := by decide +kernel
set_option maxRecDepth 65536 in
theorem w_ripe : about1.ripe theMethod args0 below0 = true := by decide +kernel
theorem w_running : about1.status = .running := rfl
set_option maxRecDepth 65536 in
theorem w_room : about1.hasRoom e0.platform room_1 = true :=
  launch0.hasRoom_least _ room_1 (by decide +kernel) (by decide +kernel) (by decide +kernel) (by decide +kernel) (by decide +kernel) (by decide +kernel)
theorem allAtoms_all (ts : List Jvm.Cond) (a : Array Jvm.Value) (st : Jvm.State) : (allAtoms ts).before a st = ts.all (fun c => c.before a st) := by
  induction ts with
  | nil => rfl
  | cons c t ih =>
    show (Jvm.Cond.and c (allAtoms t)).before a st = _
    rw [Jvm.Cond.before_and, ih, List.all_cons]
def words1 : List Jvm.Cond := Jvm.Cond.code x code maxLocals ret :: tables_1
/-- a 'code' word, met by the world's own term for the bytes: nothing is compared byte by byte -/
theorem code_word {y : MethodName} {bytes : ByteArray} {mx : Nat} {rt : Option FieldType} {a : Array Value} {s : State} {m : MethodId} {meth : Method} {c : Code} (h1 : s.methodNamed? y = some m) (h2 : s.vm.method? m = some meth) (h3 : meth.code = some c) (h4 : c.code = bytes)
    (h5 : (c.maxLocals == mx && c.exceptionTable.isEmpty && decide (c.maxStack ≤ mostOperands) && decide (meth.sig.returnType = rt) && !meth.locks && decide (parseMethodDescriptor y.desc = some meth.sig)) = true) : (Jvm.Cond.code y bytes mx rt).before a s = true := by
  simp only [Bool.and_eq_true, beq_iff_eq, Bool.not_eq_true', decide_eq_true_eq] at h5
  obtain ⟨⟨⟨⟨⟨g1, g2⟩, g3⟩, g4⟩, g5⟩, g6⟩ := h5
  simp [Cond.before, Cond.holds, Cond.value, h1, h2, h3, h4, g1, g2, g3, g4, g5, g6]
def isCode : Jvm.Cond → Bool
  | .code _ _ _ _ => true
  | _ => false
theorem all_split {L : List Jvm.Cond} {P : Jvm.Cond → Bool} (h1 : L.all (fun c => isCode c || P c) = true) (h2 : ∀ c ∈ L.filter isCode, P c = true) : L.all P = true := by
  refine List.all_eq_true.mpr fun c hc => ?_
  have h := List.all_eq_true.mp h1 c hc
  rcases Bool.eq_false_or_eq_true (isCode c) with hi | hi
  · exact h2 c (List.mem_filter.mpr ⟨hc, hi⟩)
  · simpa [hi] using h
set_option maxRecDepth 65536 in
theorem w_c0 : (Jvm.Cond.code x code maxLocals ret).before args0 about1 = true := code_word (m := ⟨1, 1⟩) (meth := k1m1) (c := k1c1) (by decide +kernel) rfl rfl rfl (by decide +kernel)
set_option maxRecDepth 65536 in
theorem w_c1 : (Jvm.Cond.code ({ cls := "com/example/dalby/dalby/mesh/Cell", name := "<init>", desc := "(II)V" } : Jvm.MethodName) prog_30_method_1_code (3 : Nat) (Option.none : Option Jvm.ClassFile.FieldType)).before args0 about1 = true := code_word (m := ⟨2, 0⟩) (meth := k2m0) (c := k2c0) (by decide +kernel) rfl rfl rfl (by decide +kernel)
set_option maxRecDepth 65536 in
theorem w_c2 : (Jvm.Cond.code ({ cls := "java/lang/Object", name := "<init>", desc := "()V" } : Jvm.MethodName) object_method_1_code (1 : Nat) (Option.none : Option Jvm.ClassFile.FieldType)).before args0 about1 = true := code_word (m := ⟨0, 0⟩) (meth := k0m0) (c := k0c0) (by decide +kernel) rfl rfl rfl (by decide +kernel)
set_option maxRecDepth 65536 in
theorem w_c3 : (Jvm.Cond.code ({ cls := "com/example/dalby/dalby/mesh/Cell", name := "equals", desc := "(Ljava/lang/Object;)Z" } : Jvm.MethodName) prog_30_method_6_code (3 : Nat) (Option.some Jvm.ClassFile.FieldType.boolean)).before args0 about1 = true := code_word (m := ⟨2, 1⟩) (meth := k2m1) (c := k2c1) (by decide +kernel) rfl rfl rfl (by decide +kernel)
set_option maxRecDepth 65536 in
theorem w_c4 : (Jvm.Cond.code ({ cls := "java/lang/Integer", name := "valueOf", desc := "(I)Ljava/lang/Integer;" } : Jvm.MethodName) jdk_33_method_22_code (1 : Nat) (Option.some (Jvm.ClassFile.FieldType.object "java/lang/Integer"))).before args0 about1 = true := code_word (m := ⟨8, 0⟩) (meth := k8m0) (c := k8c0) (by decide +kernel) rfl rfl rfl (by decide +kernel)
set_option maxRecDepth 65536 in
theorem w_c5 : (Jvm.Cond.code ({ cls := "java/lang/Integer", name := "<init>", desc := "(I)V" } : Jvm.MethodName) jdk_33_method_23_code (2 : Nat) (Option.none : Option Jvm.ClassFile.FieldType)).before args0 about1 = true := code_word (m := ⟨8, 1⟩) (meth := k8m1) (c := k8c1) (by decide +kernel) rfl rfl rfl (by decide +kernel)
set_option maxRecDepth 65536 in
theorem w_c6 : (Jvm.Cond.code ({ cls := "java/lang/Number", name := "<init>", desc := "()V" } : Jvm.MethodName) jdk_18_method_1_code (1 : Nat) (Option.none : Option Jvm.ClassFile.FieldType)).before args0 about1 = true := code_word (m := ⟨4, 0⟩) (meth := k4m0) (c := k4c0) (by decide +kernel) rfl rfl rfl (by decide +kernel)
def codes1 : List Jvm.Cond := [Jvm.Cond.code x code maxLocals ret, Jvm.Cond.code ({ cls := "com/example/dalby/dalby/mesh/Cell", name := "<init>", desc := "(II)V" } : Jvm.MethodName) prog_30_method_1_code (3 : Nat) (Option.none : Option Jvm.ClassFile.FieldType), Jvm.Cond.code ({ cls := "java/lang/Object", name := "<init>", desc := "()V" } : Jvm.MethodName) object_method_1_code (1 : Nat) (Option.none : Option Jvm.ClassFile.FieldType), Jvm.Cond.code ({ cls := "com/example/dalby/dalby/mesh/Cell", name := "equals", desc := "(Ljava/lang/Object;)Z" } : Jvm.MethodName) prog_30_method_6_code (3 : Nat) (Option.some Jvm.ClassFile.FieldType.boolean), Jvm.Cond.code ({ cls := "java/lang/Integer", name := "valueOf", desc := "(I)Ljava/lang/Integer;" } : Jvm.MethodName) jdk_33_method_22_code (1 : Nat) (Option.some (Jvm.ClassFile.FieldType.object "java/lang/Integer")), Jvm.Cond.code ({ cls := "java/lang/Integer", name := "<init>", desc := "(I)V" } : Jvm.MethodName) jdk_33_method_23_code (2 : Nat) (Option.none : Option Jvm.ClassFile.FieldType), Jvm.Cond.code ({ cls := "java/lang/Number", name := "<init>", desc := "()V" } : Jvm.MethodName) jdk_18_method_1_code (1 : Nat) (Option.none : Option Jvm.ClassFile.FieldType)]
set_option maxRecDepth 65536 in
theorem codes_eq : words1.filter isCode = codes1 := rfl
theorem w_codes : ∀ c ∈ words1.filter isCode, c.before args0 about1 = true := by
  rw [codes_eq]
  intro c hc
  simp only [codes1, List.mem_cons, List.not_mem_nil, or_false] at hc
  rcases hc with rfl | rfl | rfl | rfl | rfl | rfl | rfl
  · exact w_c0
  · exact w_c1
  · exact w_c2
  · exact w_c3
  · exact w_c4
  · exact w_c5
  · exact w_c6
set_option maxRecDepth 65536 in
theorem w_t1 : (words1.take 24).all (fun c => isCode c || c.before args0 about1) = true := by decide +kernel
set_option maxRecDepth 65536 in
theorem w_t2 : (words1.drop 24).all (fun c => isCode c || c.before args0 about1) = true := by decide +kernel
theorem w_tables : (allAtoms (Jvm.Cond.code x code maxLocals ret :: tables_1)).before args0 about1 = true := by
  rw [allAtoms_all]
  show words1.all (fun c => c.before args0 about1) = true
  refine all_split ?_ w_codes
  rw [← List.take_append_drop 24 words1, List.all_append, w_t1, w_t2]
  rfl
set_option maxRecDepth 65536 in
theorem w_rest : rest_1_c.before args0 about1 = true := by decide +kernel
set_option maxRecDepth 65536 in
theorem w_case : (Jvm.Cond.and given_1 narrow_1).before args0 about1 = true := by decide +kernel
theorem w_applies : (headSpec (Jvm.Cond.code x code maxLocals ret :: tables_1) room_1).applies x e0.platform about1 = true :=
  (Spec.applies_iff w_frames).mpr ⟨w_running, w_runnable, w_alone, w_named, w_hears, w_ripe, w_room, w_tables⟩
theorem atStart : AtStart classFile x code maxLocals ret World_1 tables_1 room_1 Calls_1 rest_1 Pre_1 launch0 p0 e0 about1 theMethod args0 below0 :=
  ⟨lists_1, trivial, launch0.admits_env _ _ _, launch0.least_env, fairChoices_fair.cas, fairChoices_fair.clock, w_frames, w_args, w_heap, w_applies, trivial, w_rest, w_case⟩
end start1
theorem witness_1 : WitnessClaimed_1 := ⟨start1.p0, start1.e0, start1.about1, start1.theMethod, start1.args0, start1.below0, start1.atStart⟩
end Jvm.Pilot.@@N@@
