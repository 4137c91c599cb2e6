import JvmDerived
import JvmDerived.Pilot.@@N@@Statement
import JvmDerived.Pilot.@@N@@Code
set_option linter.unusedVariables false
set_option linter.unusedSimpArgs false
namespace Jvm.Pilot.@@N@@
open Jvm Jvm.ClassFile Sem Op Lib Jvm.Free Jvm.Stand Jvm.LawKit Jvm.RoadKit Bundle Jvm.Pilot.@@N@@.Jvm.D
theorem own_fldS {args : Array Value} {s : State} {t : Term} {a : Addr} {O n d : String} {k : Int32} (ev : t.eval args s none [] s = some (.ref a)) (h : (Cond.eq (Term.field t O n d) (Term.int k)).value args s none s [] = some true) : Fld s s.heap a O n d (.int k) := by
  obtain ⟨x, y, e1, e2, k1, k2⟩ := cmp_v (Or.inl h)
  have e3 : y = .int k := Option.some.inj (e2.symm.trans (Term.int_eval k))
  subst e3
  obtain ⟨z, rfl⟩ : ∃ z, x = .int z := by cases x <;> simp [Kin] at k1 k2 ⊢
  have e4 : (Cond.eq (Term.field t O n d) (Term.int k)).value args s none s [] = some (decide (z = k)) := by simp [Cond.value, e1, e2]
  obtain rfl := gotT e4 h
  exact Fld.start (by rw [← fld_at ev]; exact e1)
theorem own_d1_0 : decode prog_91_method_4_code 0 = .ok (.iconst 1, 1) := by decide +kernel
theorem own_d1_1 : decode prog_91_method_4_code 1 = .ok (.newarray .byte, 2) := by decide +kernel
theorem own_d1_3 : decode prog_91_method_4_code 3 = .ok (.dup, 1) := by decide +kernel
theorem own_d1_4 : decode prog_91_method_4_code 4 = .ok (.iconst 0, 1) := by decide +kernel
theorem own_d1_5 : decode prog_91_method_4_code 5 = .ok (.aload_n 0, 1) := by decide +kernel
theorem own_d1_6 : decode prog_91_method_4_code 6 = .ok (.getfield 50, 3) := by decide +kernel
theorem own_d1_9 : decode prog_91_method_4_code 9 = .ok (.bastore, 1) := by decide +kernel
theorem own_d1_10 : decode prog_91_method_4_code 10 = .ok (.areturn, 1) := by decide +kernel
theorem own_pn0 : plainName "com/example/counterpoise/counterpoise/store/Records$Kind" = true := by first | (simp [plainName, overriddenIn]; done) | decide +kernel
theorem own_ef_rm1 (m : MethodId) (a1 : Addr) : entryFrame m #[(.ref a1)] 1 = mkF m 0 #[.val (.ref a1)] [] := by first | (simp [entryFrame, mkF, argsToLocals, Value.category]; done) | rfl
def Q1 (Z : State) (a1 : Addr) (w : Int32) (h0 : Heap) (n0 : Nat) (v : Option Value) (h : Heap) (L : List Loc) : Prop := ∃ b : Addr, ∃ k : ClassId, v = some (.ref b) ∧ Fr n0 L ∧ Keep h0 h [] ∧ h0.size ≤ b ∧ Arv Z h b k .byte (1 : Int32) [(.int (nar .byte w))] (.int (0 : Int32))
set_option maxRecDepth 65536 in
set_option maxHeartbeats 40000000 in
theorem rm1 (l : Launch) (Z : State) (a0 : Array Value) (hw : ∀ d ∈ tables_1, d.before a0 Z = true) (ws : List Jvm.Cond) (a1 : Addr) (w : Int32) (h0 : Heap) (n0 : Nat) (Z0 : n0 ≤ h0.size) (F_a1_tag : Fld Z h0 a1 "com/example/counterpoise/counterpoise/store/Records$Kind" "tag" "B" (.int w)) :
    MetFree l (⟨"com/example/counterpoise/counterpoise/store/Records$Kind", "prefix", "()[B"⟩ : MethodName) (head1 (Jvm.Cond.code (⟨"com/example/counterpoise/counterpoise/store/Records$Kind", "prefix", "()[B"⟩ : MethodName) prog_91_method_4_code 1 (some (.array .byte)) :: ws) ({ frames := 0, cells := 1, slots := 1, locals := 0 } : Room)) (fun a U => a = #[(.ref a1)] ∧ Z.Warmed39 U.vm ∧ U.heap = h0) (fun _ _ _ _ _ => True) (fun _ U o U' => ∃ v L, o = .returned v ∧ Q1 Z a1 w h0 n0 v U'.heap L ∧ FrameEnd U o U' L ({ frames := 0, cells := 1, slots := 1, locals := 0 } : Room).cells ({ frames := 0, cells := 1, slots := 1, locals := 0 } : Room).slots) := by
  refine MetFree.of_bodySF (plainFor_of_name own_pn0) hisR ?_
  intro p e s m args below meth c s₁ Bd hml0 hP hK
  obtain ⟨rfl, hZ, hh⟩ := hP
  have hx := Bd.exec
  have hby := Bd.bytes
  have hml : c.maxLocals = 1 := hml0
  have hown : s.vm.findClass "com/example/counterpoise/counterpoise/store/Records$Kind" = some m.cls := findClass_of_methodNamed Bd.named
  have hnm := (name_of_methodNamed Bd.named Bd.method).1
  have X0 : Stand p l e ({ frames := 0, cells := 1, slots := 1, locals := 0 } : Room) s m #[(.ref a1)] below meth c s₁ [] 0 0 := Stand.of_body Bd
  have e0 : s₁.heap = h0 := by rw [← hh, Bd.state]; rfl
  have N0 := Fr.nil n0
  have K0 : Keep h0 h0 [] := Keep.refl h0 _
  have pre0 : ∀ t, Steps p.tables e below (s₁.setTop (mkF m 0 #[.val (.ref a1)] [])) t → Steps p.tables e below (s₁.setTop (entryFrame m #[(.ref a1)] 1)) t := fun t k => castTop (own_ef_rm1 m a1) k
  obtain ⟨T1, h1, k1, X1, e1, E1, A1, st1⟩ := newP X0 hx hZ (hw _ (List.mem_of_getElem? (i := 4) rfl)) e0 (g := (mkF m 1 #[.val (.ref a1)] [(.int (1 : Int32))])) rfl (hb hby own_d1_1) rfl (by decide) (cap := 1) (by decide) (by decide) (by decide) (by decide)
  obtain ⟨b1, g1⟩ : ∃ z, z = h0.size := ⟨_, rfl⟩
  rw [← g1] at A1 st1
  have ne_a1_b1 : a1 ≠ b1 := Nat.ne_of_lt (Nat.lt_of_lt_of_le F_a1_tag.lt (Nat.le_of_eq g1.symm))
  have gg_b1 : n0 ≤ b1 := Nat.le_trans (Nat.le_trans Z0 K0.1) (Nat.le_of_eq g1.symm)
  have sz_b1 : h0.size ≤ b1 := Nat.le_trans K0.1 (Nat.le_of_eq g1.symm)
  have K1 := K0.ext E1
  have V1 : Arv Z h1 b1 k1 .byte (1 : Int32) [(.int (0 : Int32))] (.int (0 : Int32)) := (Arv.new A1 (by decide)).pad (pad_rep [] (.int (0 : Int32)) 1)
  have Q2 := (F_a1_tag.ext E1)
  obtain ⟨T3, X3, e3, st3⟩ := getF X1 hx hZ hown (host := "") (Or.inl (hw _ (List.mem_of_getElem? (i := 10) rfl))) Via.refl e1 Q2 (g := (mkF m 6 #[.val (.ref a1)] [(.ref a1), (.int (0 : Int32)), (.ref b1), (.ref b1)])) rfl rfl (hb hby own_d1_6)
  obtain ⟨cl4, Ar4, q4, S4, M4, H4, G4⟩ := id V1
  have hin4 : ¬ ((0 : Int32) < 0 ∨ cl4.slots.size ≤ ((0 : Int32)).toNatClampNeg) := inb_of S4 ⟨by decide, by decide⟩
  obtain ⟨T5, h5, X5, e5, W5, st5⟩ := stB X3 hx hZ e3 Ar4 (j := (0 : Int32)) hin4 (g := (mkF m 9 #[.val (.ref a1)] [(.int w), (.int (0 : Int32)), (.ref b1), (.ref b1)])) rfl rfl (hb hby own_d1_9)
  have V5 : Arv Z h5 b1 k1 .byte (1 : Int32) [(.int (nar .byte w))] (.int (0 : Int32)) := Arv.set Ar4 q4 S4 M4 H4 G4 (fits_nar_byte _) W5 0 rfl (Nat.le_of_ble_eq_true rfl)
  have K5 := K1.wr W5 (Or.inr sz_b1)
  have N5 := Fr.snoc X5 N0 gg_b1
  obtain ⟨fs, hr, hrun, hended, hW, hsame⟩ := X5.leave (v := some (.ref b1)) (fun h => by rw [Bd.returns] at h; cases h)
  refine ⟨_, _, pre0 _ ?_, hrun, hended, _, _, rfl, ?_, ⟨_, rfl⟩, hW, hsame.mono (by decide) (by decide)⟩
  · show Steps p.tables e below (s₁.setTop (mkF m 0 #[.val (.ref a1)] [])) _
    refine XS.iconst X0.here hx rfl (hb hby own_d1_0) ?_
    show Steps p.tables e below (s₁.setTop (mkF m 1 #[.val (.ref a1)] [(.int (1 : Int32))])) _
    refine st1 _ ?_
    show Steps p.tables e below (T1.setTop (mkF m 3 #[.val (.ref a1)] [(.ref b1)])) _
    refine XS.dup X1.here hx rfl (hb hby own_d1_3) rfl rfl ?_
    show Steps p.tables e below (T1.setTop (mkF m 4 #[.val (.ref a1)] [(.ref b1), (.ref b1)])) _
    refine XS.iconst X1.here hx rfl (hb hby own_d1_4) ?_
    show Steps p.tables e below (T1.setTop (mkF m 5 #[.val (.ref a1)] [(.int (0 : Int32)), (.ref b1), (.ref b1)])) _
    refine XS.aloadN X1.here hx rfl (hb hby own_d1_5) rfl rfl ?_
    show Steps p.tables e below (T1.setTop (mkF m 6 #[.val (.ref a1)] [(.ref a1), (.int (0 : Int32)), (.ref b1), (.ref b1)])) _
    refine st3 _ ?_
    show Steps p.tables e below (T3.setTop (mkF m 9 #[.val (.ref a1)] [(.int w), (.int (0 : Int32)), (.ref b1), (.ref b1)])) _
    refine st5 _ ?_
    show Steps p.tables e below (T5.setTop (mkF m 10 #[.val (.ref a1)] [(.ref b1)])) _
    jvm_step X5.here [X5.here.top, hx, (hb hby own_d1_10), X5.method', Bd.returns, Value.isRef, FieldType.isReference]
    first | (intro acts; rw [hr _ acts rfl rfl rfl]) | rw [hr _ _ rfl rfl rfl]
    exact Steps.refl _
  · show Q1 Z a1 w h0 n0 _ T5.heap _
    rw [e5]
    exact ⟨b1, k1, rfl, N5, K5, sz_b1, V5⟩
theorem own_d2_0 : decode prog_91_method_5_code 0 = .ok (.aload_n 1, 1) := by decide +kernel
theorem own_d2_1 : decode prog_91_method_5_code 1 = .ok (.arraylength, 1) := by decide +kernel
theorem own_d2_2 : decode prog_91_method_5_code 2 = .ok (.ifCond .le 17, 3) := by decide +kernel
theorem own_d2_19 : decode prog_91_method_5_code 19 = .ok (.iconst 0, 1) := by decide +kernel
theorem own_d2_20 : decode prog_91_method_5_code 20 = .ok (.ireturn, 1) := by decide +kernel
def own_f_rm2_0 (w : Int32) : Int32 := (0 : Int32)
theorem own_ef_rm2_0 (m : MethodId) (a1 : Addr) (a2 : Addr) : entryFrame m #[(.ref a1), (.ref a2)] 2 = mkF m 0 #[.val (.ref a1), .val (.ref a2)] [] := by first | (simp [entryFrame, mkF, argsToLocals, Value.category]; done) | rfl
def Q2_0 (Z : State) (a1 : Addr) (a2 : Addr) (k : ClassId) (w : Int32) (h0 : Heap) (n0 : Nat) (v : Option Value) (h : Heap) (L : List Loc) : Prop := v = some (.int (own_f_rm2_0 w)) ∧ Fr n0 L ∧ h = h0
set_option maxRecDepth 65536 in
set_option maxHeartbeats 40000000 in
theorem rm2_0 (l : Launch) (Z : State) (a0 : Array Value) (hw : ∀ d ∈ tables_1, d.before a0 Z = true) (ws : List Jvm.Cond) (a1 : Addr) (a2 : Addr) (k : ClassId) (w : Int32) (h0 : Heap) (n0 : Nat) (Z0 : n0 ≤ h0.size) (F_a1_tag : Fld Z h0 a1 "com/example/counterpoise/counterpoise/store/Records$Kind" "tag" "B" (.int w)) (V_a2 : Arv Z h0 a2 k .byte (0 : Int32) [] (.int (0 : Int32))) :
    MetFree l (⟨"com/example/counterpoise/counterpoise/store/Records$Kind", "holds", "([B)Z"⟩ : MethodName) (head1 (Jvm.Cond.code (⟨"com/example/counterpoise/counterpoise/store/Records$Kind", "holds", "([B)Z"⟩ : MethodName) prog_91_method_5_code 2 (some .boolean) :: ws) ({ frames := 0, cells := 0, slots := 0, locals := 0 } : Room)) (fun a U => a = #[(.ref a1), (.ref a2)] ∧ Z.Warmed39 U.vm ∧ U.heap = h0) (fun _ _ _ _ _ => True) (fun _ U o U' => ∃ v L, o = .returned v ∧ Q2_0 Z a1 a2 k w h0 n0 v U'.heap L ∧ FrameEnd U o U' L ({ frames := 0, cells := 0, slots := 0, locals := 0 } : Room).cells ({ frames := 0, cells := 0, slots := 0, locals := 0 } : Room).slots) := by
  refine MetFree.of_bodySF (plainFor_of_name own_pn0) hisR ?_
  intro p e s m args below meth c s₁ Bd hml0 hP hK
  obtain ⟨rfl, hZ, hh⟩ := hP
  have hx := Bd.exec
  have hby := Bd.bytes
  have hml : c.maxLocals = 2 := hml0
  have hown : s.vm.findClass "com/example/counterpoise/counterpoise/store/Records$Kind" = some m.cls := findClass_of_methodNamed Bd.named
  have hnm := (name_of_methodNamed Bd.named Bd.method).1
  have X0 : Stand p l e ({ frames := 0, cells := 0, slots := 0, locals := 0 } : Room) s m #[(.ref a1), (.ref a2)] below meth c s₁ [] 0 0 := Stand.of_body Bd
  have e0 : s₁.heap = h0 := by rw [← hh, Bd.state]; rfl
  have N0 := Fr.nil n0
  have K0 : Keep h0 h0 [] := Keep.refl h0 _
  have pre0 : ∀ t, Steps p.tables e below (s₁.setTop (mkF m 0 #[.val (.ref a1), .val (.ref a2)] [])) t → Steps p.tables e below (s₁.setTop (entryFrame m #[(.ref a1), (.ref a2)] 2)) t := fun t k => castTop (own_ef_rm2_0 m a1 a2) k
  obtain ⟨cl7, Ar7, q7, S7, M7, H7, G7⟩ := id V_a2
  obtain ⟨fs, hr, hrun, hended, hW, hsame⟩ := X0.leave (v := some (.int (0 : Int32))) (fun h => by rw [Bd.returns] at h; cases h)
  refine ⟨_, _, pre0 _ ?_, hrun, hended, _, _, rfl, ?_, ⟨_, rfl⟩, hW, hsame.mono (by decide) (by decide)⟩
  · show Steps p.tables e below (s₁.setTop (mkF m 0 #[.val (.ref a1), .val (.ref a2)] [])) _
    refine XS.aloadN X0.here hx rfl (hb hby own_d2_0) rfl rfl ?_
    show Steps p.tables e below (s₁.setTop (mkF m 1 #[.val (.ref a1), .val (.ref a2)] [(.ref a2)])) _
    refine X0.arraylength hx (by rw [e0]; exact Ar7.1) (State.isArrayOf_alike hZ.alike Ar7.2.1) (g := (mkF m 1 #[.val (.ref a1), .val (.ref a2)] [(.ref a2)])) rfl rfl (hb hby own_d2_1) _ ?_
    rw [len_of S7 M7]
    show Steps p.tables e below (s₁.setTop (mkF m 2 #[.val (.ref a1), .val (.ref a2)] [(.int (0 : Int32))])) _
    refine XS.ifYes X0.here hx rfl (pc0 := 2) (pc' := 19) rfl (hb hby own_d2_2) rfl ((if0 _ _).trans (flt (by decide : ¬ ((0 : Int32) < (0 : Int32)))).2.2.2) (by decide) (by decide) ?_
    show Steps p.tables e below (s₁.setTop (mkF m 19 #[.val (.ref a1), .val (.ref a2)] [])) _
    refine XS.iconst X0.here hx rfl (hb hby own_d2_19) ?_
    show Steps p.tables e below (s₁.setTop (mkF m 20 #[.val (.ref a1), .val (.ref a2)] [(.int (0 : Int32))])) _
    exact retN X0 hx (t := .boolean) Bd.returns (by simp) (hb hby own_d2_20) hr
  · show Q2_0 Z a1 a2 k w h0 n0 _ s₁.heap _
    rw [e0]
    exact ⟨(congrArg (fun z => some (Value.int z)) (by unfold own_f_rm2_0; rfl : (0 : Int32) = (own_f_rm2_0 w))), N0, rfl⟩
theorem own_d2_5 : decode prog_91_method_5_code 5 = .ok (.aload_n 1, 1) := by decide +kernel
theorem own_d2_6 : decode prog_91_method_5_code 6 = .ok (.iconst 0, 1) := by decide +kernel
theorem own_d2_7 : decode prog_91_method_5_code 7 = .ok (.baload, 1) := by decide +kernel
theorem own_d2_8 : decode prog_91_method_5_code 8 = .ok (.aload_n 0, 1) := by decide +kernel
theorem own_d2_9 : decode prog_91_method_5_code 9 = .ok (.getfield 50, 3) := by decide +kernel
theorem own_d2_12 : decode prog_91_method_5_code 12 = .ok (.if_icmp .ne 7, 3) := by decide +kernel
theorem own_d2_15 : decode prog_91_method_5_code 15 = .ok (.iconst 1, 1) := by decide +kernel
theorem own_d2_16 : decode prog_91_method_5_code 16 = .ok (.goto 4, 3) := by decide +kernel
def own_f_rm2_1 (w : Int32) (v0 : Int32) : Int32 := if v0 = w then (1 : Int32) else (0 : Int32)
theorem own_ef_rm2_1 (m : MethodId) (a1 : Addr) (a2 : Addr) : entryFrame m #[(.ref a1), (.ref a2)] 2 = mkF m 0 #[.val (.ref a1), .val (.ref a2)] [] := by first | (simp [entryFrame, mkF, argsToLocals, Value.category]; done) | rfl
def Q2_1 (Z : State) (a1 : Addr) (a2 : Addr) (k : ClassId) (w : Int32) (v0 : Int32) (h0 : Heap) (n0 : Nat) (v : Option Value) (h : Heap) (L : List Loc) : Prop := v = some (.int (own_f_rm2_1 w v0)) ∧ Fr n0 L ∧ h = h0
set_option maxRecDepth 65536 in
set_option maxHeartbeats 40000000 in
theorem rm2_1 (l : Launch) (Z : State) (a0 : Array Value) (hw : ∀ d ∈ tables_1, d.before a0 Z = true) (ws : List Jvm.Cond) (a1 : Addr) (a2 : Addr) (k : ClassId) (w : Int32) (v0 : Int32) (h0 : Heap) (n0 : Nat) (Z0 : n0 ≤ h0.size) (F_a1_tag : Fld Z h0 a1 "com/example/counterpoise/counterpoise/store/Records$Kind" "tag" "B" (.int w)) (V_a2 : Arv Z h0 a2 k .byte (1 : Int32) [(.int v0)] (.int (0 : Int32))) :
    MetFree l (⟨"com/example/counterpoise/counterpoise/store/Records$Kind", "holds", "([B)Z"⟩ : MethodName) (head1 (Jvm.Cond.code (⟨"com/example/counterpoise/counterpoise/store/Records$Kind", "holds", "([B)Z"⟩ : MethodName) prog_91_method_5_code 2 (some .boolean) :: ws) ({ frames := 0, cells := 0, slots := 0, locals := 0 } : Room)) (fun a U => a = #[(.ref a1), (.ref a2)] ∧ Z.Warmed39 U.vm ∧ U.heap = h0) (fun _ _ _ _ _ => True) (fun _ U o U' => ∃ v L, o = .returned v ∧ Q2_1 Z a1 a2 k w v0 h0 n0 v U'.heap L ∧ FrameEnd U o U' L ({ frames := 0, cells := 0, slots := 0, locals := 0 } : Room).cells ({ frames := 0, cells := 0, slots := 0, locals := 0 } : Room).slots) := by
  refine MetFree.of_bodySF (plainFor_of_name own_pn0) hisR ?_
  intro p e s m args below meth c s₁ Bd hml0 hP hK
  obtain ⟨rfl, hZ, hh⟩ := hP
  have hx := Bd.exec
  have hby := Bd.bytes
  have hml : c.maxLocals = 2 := hml0
  have hown : s.vm.findClass "com/example/counterpoise/counterpoise/store/Records$Kind" = some m.cls := findClass_of_methodNamed Bd.named
  have hnm := (name_of_methodNamed Bd.named Bd.method).1
  have X0 : Stand p l e ({ frames := 0, cells := 0, slots := 0, locals := 0 } : Room) s m #[(.ref a1), (.ref a2)] below meth c s₁ [] 0 0 := Stand.of_body Bd
  have e0 : s₁.heap = h0 := by rw [← hh, Bd.state]; rfl
  have N0 := Fr.nil n0
  have K0 : Keep h0 h0 [] := Keep.refl h0 _
  have pre0 : ∀ t, Steps p.tables e below (s₁.setTop (mkF m 0 #[.val (.ref a1), .val (.ref a2)] [])) t → Steps p.tables e below (s₁.setTop (entryFrame m #[(.ref a1), (.ref a2)] 2)) t := fun t k => castTop (own_ef_rm2_1 m a1 a2) k
  obtain ⟨cl12, Ar12, q12, S12, M12, H12, G12⟩ := id V_a2
  obtain ⟨cl13, Ar13, q13, S13, M13, H13, G13⟩ := id V_a2
  have hin13 : ¬ ((0 : Int32) < 0 ∨ cl13.slots.size ≤ ((0 : Int32)).toNatClampNeg) := inb_of S13 ⟨by decide, by decide⟩
  have hat13 : cl13.slots[((0 : Int32)).toNatClampNeg]? = some (.int v0) := Has.at H13 hin13 rfl
  obtain ⟨T14, X14, e14, st14⟩ := getF X0 hx hZ hown (host := "") (Or.inl (hw _ (List.mem_of_getElem? (i := 10) rfl))) Via.refl e0 F_a1_tag (g := (mkF m 9 #[.val (.ref a1), .val (.ref a2)] [(.ref a1), (.int v0)])) rfl rfl (hb hby own_d2_9)
  have pre15 : ∀ t, Steps p.tables e below (T14.setTop (mkF m 12 #[.val (.ref a1), .val (.ref a2)] [(.int w), (.int v0)])) t → Steps p.tables e below (s₁.setTop (entryFrame m #[(.ref a1), (.ref a2)] 2)) t := fun t k => by
    refine pre0 _ ?_
    show Steps p.tables e below (s₁.setTop (mkF m 0 #[.val (.ref a1), .val (.ref a2)] [])) _
    refine XS.aloadN X0.here hx rfl (hb hby own_d2_0) rfl rfl ?_
    show Steps p.tables e below (s₁.setTop (mkF m 1 #[.val (.ref a1), .val (.ref a2)] [(.ref a2)])) _
    refine X0.arraylength hx (by rw [e0]; exact Ar12.1) (State.isArrayOf_alike hZ.alike Ar12.2.1) (g := (mkF m 1 #[.val (.ref a1), .val (.ref a2)] [(.ref a2)])) rfl rfl (hb hby own_d2_1) _ ?_
    rw [len_of S12 M12]
    show Steps p.tables e below (s₁.setTop (mkF m 2 #[.val (.ref a1), .val (.ref a2)] [(.int (1 : Int32))])) _
    refine XS.ifNo X0.here hx rfl (hb hby own_d2_2) rfl ((if0 _ _).trans (tlt (by decide : ((0 : Int32) < (1 : Int32)))).2.2.2) ?_
    show Steps p.tables e below (s₁.setTop (mkF m 5 #[.val (.ref a1), .val (.ref a2)] [])) _
    refine XS.aloadN X0.here hx rfl (hb hby own_d2_5) rfl rfl ?_
    show Steps p.tables e below (s₁.setTop (mkF m 6 #[.val (.ref a1), .val (.ref a2)] [(.ref a2)])) _
    refine XS.iconst X0.here hx rfl (hb hby own_d2_6) ?_
    show Steps p.tables e below (s₁.setTop (mkF m 7 #[.val (.ref a1), .val (.ref a2)] [(.int (0 : Int32)), (.ref a2)])) _
    refine X0.baloadBytes hx (j := (0 : Int32)) (v := (.int v0)) (by rw [e0]; exact Ar13.1) (State.isArrayOf_alike hZ.alike Ar13.2.1) Ar13.2.2 hin13 hat13 (g := (mkF m 7 #[.val (.ref a1), .val (.ref a2)] [(.int (0 : Int32)), (.ref a2)])) rfl rfl (hb hby own_d2_7) _ ?_
    show Steps p.tables e below (s₁.setTop (mkF m 8 #[.val (.ref a1), .val (.ref a2)] [(.int v0)])) _
    refine XS.aloadN X0.here hx rfl (hb hby own_d2_8) rfl rfl ?_
    show Steps p.tables e below (s₁.setTop (mkF m 9 #[.val (.ref a1), .val (.ref a2)] [(.ref a1), (.int v0)])) _
    refine st14 _ ?_
    exact k
  by_cases hc12 : v0 = w
  · obtain ⟨fs, hr, hrun, hended, hW, hsame⟩ := X14.leave (v := some (.int (1 : Int32))) (fun h => by rw [Bd.returns] at h; cases h)
    refine ⟨_, _, pre15 _ ?_, hrun, hended, _, _, rfl, ?_, ⟨_, rfl⟩, hW, hsame.mono (by decide) (by decide)⟩
    · show Steps p.tables e below (T14.setTop (mkF m 12 #[.val (.ref a1), .val (.ref a2)] [(.int w), (.int v0)])) _
      refine XS.icmpNo X14.here hx rfl (hb hby own_d2_12) rfl (teq hc12).2 ?_
      show Steps p.tables e below (T14.setTop (mkF m 15 #[.val (.ref a1), .val (.ref a2)] [])) _
      refine XS.iconst X14.here hx rfl (hb hby own_d2_15) ?_
      show Steps p.tables e below (T14.setTop (mkF m 16 #[.val (.ref a1), .val (.ref a2)] [(.int (1 : Int32))])) _
      refine XS.goto X14.here hx rfl (pc0 := 16) (pc' := 20) rfl (hb hby own_d2_16) (by decide) (by decide) ?_
      show Steps p.tables e below (T14.setTop (mkF m 20 #[.val (.ref a1), .val (.ref a2)] [(.int (1 : Int32))])) _
      exact retN X14 hx (t := .boolean) Bd.returns (by simp) (hb hby own_d2_20) hr
    · show Q2_1 Z a1 a2 k w v0 h0 n0 _ T14.heap _
      rw [e14]
      exact ⟨(congrArg (fun z => some (Value.int z)) (by unfold own_f_rm2_1; rw [if_pos hc12] : (1 : Int32) = (own_f_rm2_1 w v0))), N0, rfl⟩
  · obtain ⟨fs, hr, hrun, hended, hW, hsame⟩ := X14.leave (v := some (.int (0 : Int32))) (fun h => by rw [Bd.returns] at h; cases h)
    refine ⟨_, _, pre15 _ ?_, hrun, hended, _, _, rfl, ?_, ⟨_, rfl⟩, hW, hsame.mono (by decide) (by decide)⟩
    · show Steps p.tables e below (T14.setTop (mkF m 12 #[.val (.ref a1), .val (.ref a2)] [(.int w), (.int v0)])) _
      refine XS.icmpYes X14.here hx rfl (pc0 := 12) (pc' := 19) rfl (hb hby own_d2_12) rfl (feq hc12).2 (by decide) (by decide) ?_
      show Steps p.tables e below (T14.setTop (mkF m 19 #[.val (.ref a1), .val (.ref a2)] [])) _
      refine XS.iconst X14.here hx rfl (hb hby own_d2_19) ?_
      show Steps p.tables e below (T14.setTop (mkF m 20 #[.val (.ref a1), .val (.ref a2)] [(.int (0 : Int32))])) _
      exact retN X14 hx (t := .boolean) Bd.returns (by simp) (hb hby own_d2_20) hr
    · show Q2_1 Z a1 a2 k w v0 h0 n0 _ T14.heap _
      rw [e14]
      exact ⟨(congrArg (fun z => some (Value.int z)) (by unfold own_f_rm2_1; rw [if_neg hc12] : (0 : Int32) = (own_f_rm2_1 w v0))), N0, rfl⟩
def own_f_rm2_2 (w : Int32) (v0 : Int32) : Int32 := if v0 = w then (1 : Int32) else (0 : Int32)
theorem own_ef_rm2_2 (m : MethodId) (a1 : Addr) (a2 : Addr) : entryFrame m #[(.ref a1), (.ref a2)] 2 = mkF m 0 #[.val (.ref a1), .val (.ref a2)] [] := by first | (simp [entryFrame, mkF, argsToLocals, Value.category]; done) | rfl
def Q2_2 (Z : State) (a1 : Addr) (a2 : Addr) (k : ClassId) (w : Int32) (v0 : Int32) (v1 : Int32) (h0 : Heap) (n0 : Nat) (v : Option Value) (h : Heap) (L : List Loc) : Prop := v = some (.int (own_f_rm2_2 w v0)) ∧ Fr n0 L ∧ h = h0
set_option maxRecDepth 65536 in
set_option maxHeartbeats 40000000 in
theorem rm2_2 (l : Launch) (Z : State) (a0 : Array Value) (hw : ∀ d ∈ tables_1, d.before a0 Z = true) (ws : List Jvm.Cond) (a1 : Addr) (a2 : Addr) (k : ClassId) (w : Int32) (v0 : Int32) (v1 : Int32) (h0 : Heap) (n0 : Nat) (Z0 : n0 ≤ h0.size) (F_a1_tag : Fld Z h0 a1 "com/example/counterpoise/counterpoise/store/Records$Kind" "tag" "B" (.int w)) (V_a2 : Arv Z h0 a2 k .byte (2 : Int32) [(.int v0), (.int v1)] (.int (0 : Int32))) :
    MetFree l (⟨"com/example/counterpoise/counterpoise/store/Records$Kind", "holds", "([B)Z"⟩ : MethodName) (head1 (Jvm.Cond.code (⟨"com/example/counterpoise/counterpoise/store/Records$Kind", "holds", "([B)Z"⟩ : MethodName) prog_91_method_5_code 2 (some .boolean) :: ws) ({ frames := 0, cells := 0, slots := 0, locals := 0 } : Room)) (fun a U => a = #[(.ref a1), (.ref a2)] ∧ Z.Warmed39 U.vm ∧ U.heap = h0) (fun _ _ _ _ _ => True) (fun _ U o U' => ∃ v L, o = .returned v ∧ Q2_2 Z a1 a2 k w v0 v1 h0 n0 v U'.heap L ∧ FrameEnd U o U' L ({ frames := 0, cells := 0, slots := 0, locals := 0 } : Room).cells ({ frames := 0, cells := 0, slots := 0, locals := 0 } : Room).slots) := by
  refine MetFree.of_bodySF (plainFor_of_name own_pn0) hisR ?_
  intro p e s m args below meth c s₁ Bd hml0 hP hK
  obtain ⟨rfl, hZ, hh⟩ := hP
  have hx := Bd.exec
  have hby := Bd.bytes
  have hml : c.maxLocals = 2 := hml0
  have hown : s.vm.findClass "com/example/counterpoise/counterpoise/store/Records$Kind" = some m.cls := findClass_of_methodNamed Bd.named
  have hnm := (name_of_methodNamed Bd.named Bd.method).1
  have X0 : Stand p l e ({ frames := 0, cells := 0, slots := 0, locals := 0 } : Room) s m #[(.ref a1), (.ref a2)] below meth c s₁ [] 0 0 := Stand.of_body Bd
  have e0 : s₁.heap = h0 := by rw [← hh, Bd.state]; rfl
  have N0 := Fr.nil n0
  have K0 : Keep h0 h0 [] := Keep.refl h0 _
  have pre0 : ∀ t, Steps p.tables e below (s₁.setTop (mkF m 0 #[.val (.ref a1), .val (.ref a2)] [])) t → Steps p.tables e below (s₁.setTop (entryFrame m #[(.ref a1), (.ref a2)] 2)) t := fun t k => castTop (own_ef_rm2_2 m a1 a2) k
  obtain ⟨cl20, Ar20, q20, S20, M20, H20, G20⟩ := id V_a2
  obtain ⟨cl21, Ar21, q21, S21, M21, H21, G21⟩ := id V_a2
  have hin21 : ¬ ((0 : Int32) < 0 ∨ cl21.slots.size ≤ ((0 : Int32)).toNatClampNeg) := inb_of S21 ⟨by decide, by decide⟩
  have hat21 : cl21.slots[((0 : Int32)).toNatClampNeg]? = some (.int v0) := Has.at H21 hin21 rfl
  obtain ⟨T22, X22, e22, st22⟩ := getF X0 hx hZ hown (host := "") (Or.inl (hw _ (List.mem_of_getElem? (i := 10) rfl))) Via.refl e0 F_a1_tag (g := (mkF m 9 #[.val (.ref a1), .val (.ref a2)] [(.ref a1), (.int v0)])) rfl rfl (hb hby own_d2_9)
  have pre23 : ∀ t, Steps p.tables e below (T22.setTop (mkF m 12 #[.val (.ref a1), .val (.ref a2)] [(.int w), (.int v0)])) t → Steps p.tables e below (s₁.setTop (entryFrame m #[(.ref a1), (.ref a2)] 2)) t := fun t k => by
    refine pre0 _ ?_
    show Steps p.tables e below (s₁.setTop (mkF m 0 #[.val (.ref a1), .val (.ref a2)] [])) _
    refine XS.aloadN X0.here hx rfl (hb hby own_d2_0) rfl rfl ?_
    show Steps p.tables e below (s₁.setTop (mkF m 1 #[.val (.ref a1), .val (.ref a2)] [(.ref a2)])) _
    refine X0.arraylength hx (by rw [e0]; exact Ar20.1) (State.isArrayOf_alike hZ.alike Ar20.2.1) (g := (mkF m 1 #[.val (.ref a1), .val (.ref a2)] [(.ref a2)])) rfl rfl (hb hby own_d2_1) _ ?_
    rw [len_of S20 M20]
    show Steps p.tables e below (s₁.setTop (mkF m 2 #[.val (.ref a1), .val (.ref a2)] [(.int (2 : Int32))])) _
    refine XS.ifNo X0.here hx rfl (hb hby own_d2_2) rfl ((if0 _ _).trans (tlt (by decide : ((0 : Int32) < (2 : Int32)))).2.2.2) ?_
    show Steps p.tables e below (s₁.setTop (mkF m 5 #[.val (.ref a1), .val (.ref a2)] [])) _
    refine XS.aloadN X0.here hx rfl (hb hby own_d2_5) rfl rfl ?_
    show Steps p.tables e below (s₁.setTop (mkF m 6 #[.val (.ref a1), .val (.ref a2)] [(.ref a2)])) _
    refine XS.iconst X0.here hx rfl (hb hby own_d2_6) ?_
    show Steps p.tables e below (s₁.setTop (mkF m 7 #[.val (.ref a1), .val (.ref a2)] [(.int (0 : Int32)), (.ref a2)])) _
    refine X0.baloadBytes hx (j := (0 : Int32)) (v := (.int v0)) (by rw [e0]; exact Ar21.1) (State.isArrayOf_alike hZ.alike Ar21.2.1) Ar21.2.2 hin21 hat21 (g := (mkF m 7 #[.val (.ref a1), .val (.ref a2)] [(.int (0 : Int32)), (.ref a2)])) rfl rfl (hb hby own_d2_7) _ ?_
    show Steps p.tables e below (s₁.setTop (mkF m 8 #[.val (.ref a1), .val (.ref a2)] [(.int v0)])) _
    refine XS.aloadN X0.here hx rfl (hb hby own_d2_8) rfl rfl ?_
    show Steps p.tables e below (s₁.setTop (mkF m 9 #[.val (.ref a1), .val (.ref a2)] [(.ref a1), (.int v0)])) _
    refine st22 _ ?_
    exact k
  by_cases hc12 : v0 = w
  · obtain ⟨fs, hr, hrun, hended, hW, hsame⟩ := X22.leave (v := some (.int (1 : Int32))) (fun h => by rw [Bd.returns] at h; cases h)
    refine ⟨_, _, pre23 _ ?_, hrun, hended, _, _, rfl, ?_, ⟨_, rfl⟩, hW, hsame.mono (by decide) (by decide)⟩
    · show Steps p.tables e below (T22.setTop (mkF m 12 #[.val (.ref a1), .val (.ref a2)] [(.int w), (.int v0)])) _
      refine XS.icmpNo X22.here hx rfl (hb hby own_d2_12) rfl (teq hc12).2 ?_
      show Steps p.tables e below (T22.setTop (mkF m 15 #[.val (.ref a1), .val (.ref a2)] [])) _
      refine XS.iconst X22.here hx rfl (hb hby own_d2_15) ?_
      show Steps p.tables e below (T22.setTop (mkF m 16 #[.val (.ref a1), .val (.ref a2)] [(.int (1 : Int32))])) _
      refine XS.goto X22.here hx rfl (pc0 := 16) (pc' := 20) rfl (hb hby own_d2_16) (by decide) (by decide) ?_
      show Steps p.tables e below (T22.setTop (mkF m 20 #[.val (.ref a1), .val (.ref a2)] [(.int (1 : Int32))])) _
      exact retN X22 hx (t := .boolean) Bd.returns (by simp) (hb hby own_d2_20) hr
    · show Q2_2 Z a1 a2 k w v0 v1 h0 n0 _ T22.heap _
      rw [e22]
      exact ⟨(congrArg (fun z => some (Value.int z)) (by unfold own_f_rm2_2; rw [if_pos hc12] : (1 : Int32) = (own_f_rm2_2 w v0))), N0, rfl⟩
  · obtain ⟨fs, hr, hrun, hended, hW, hsame⟩ := X22.leave (v := some (.int (0 : Int32))) (fun h => by rw [Bd.returns] at h; cases h)
    refine ⟨_, _, pre23 _ ?_, hrun, hended, _, _, rfl, ?_, ⟨_, rfl⟩, hW, hsame.mono (by decide) (by decide)⟩
    · show Steps p.tables e below (T22.setTop (mkF m 12 #[.val (.ref a1), .val (.ref a2)] [(.int w), (.int v0)])) _
      refine XS.icmpYes X22.here hx rfl (pc0 := 12) (pc' := 19) rfl (hb hby own_d2_12) rfl (feq hc12).2 (by decide) (by decide) ?_
      show Steps p.tables e below (T22.setTop (mkF m 19 #[.val (.ref a1), .val (.ref a2)] [])) _
      refine XS.iconst X22.here hx rfl (hb hby own_d2_19) ?_
      show Steps p.tables e below (T22.setTop (mkF m 20 #[.val (.ref a1), .val (.ref a2)] [(.int (0 : Int32))])) _
      exact retN X22 hx (t := .boolean) Bd.returns (by simp) (hb hby own_d2_20) hr
    · show Q2_2 Z a1 a2 k w v0 v1 h0 n0 _ T22.heap _
      rw [e22]
      exact ⟨(congrArg (fun z => some (Value.int z)) (by unfold own_f_rm2_2; rw [if_neg hc12] : (0 : Int32) = (own_f_rm2_2 w v0))), N0, rfl⟩
def own_f_rm2_3 (w : Int32) (v0 : Int32) : Int32 := if v0 = w then (1 : Int32) else (0 : Int32)
theorem own_ef_rm2_3 (m : MethodId) (a1 : Addr) (a2 : Addr) : entryFrame m #[(.ref a1), (.ref a2)] 2 = mkF m 0 #[.val (.ref a1), .val (.ref a2)] [] := by first | (simp [entryFrame, mkF, argsToLocals, Value.category]; done) | rfl
def Q2_3 (Z : State) (a1 : Addr) (a2 : Addr) (k : ClassId) (w : Int32) (v0 : Int32) (v1 : Int32) (v2 : Int32) (h0 : Heap) (n0 : Nat) (v : Option Value) (h : Heap) (L : List Loc) : Prop := v = some (.int (own_f_rm2_3 w v0)) ∧ Fr n0 L ∧ h = h0
set_option maxRecDepth 65536 in
set_option maxHeartbeats 40000000 in
theorem rm2_3 (l : Launch) (Z : State) (a0 : Array Value) (hw : ∀ d ∈ tables_1, d.before a0 Z = true) (ws : List Jvm.Cond) (a1 : Addr) (a2 : Addr) (k : ClassId) (w : Int32) (v0 : Int32) (v1 : Int32) (v2 : Int32) (h0 : Heap) (n0 : Nat) (Z0 : n0 ≤ h0.size) (F_a1_tag : Fld Z h0 a1 "com/example/counterpoise/counterpoise/store/Records$Kind" "tag" "B" (.int w)) (V_a2 : Arv Z h0 a2 k .byte (3 : Int32) [(.int v0), (.int v1), (.int v2)] (.int (0 : Int32))) :
    MetFree l (⟨"com/example/counterpoise/counterpoise/store/Records$Kind", "holds", "([B)Z"⟩ : MethodName) (head1 (Jvm.Cond.code (⟨"com/example/counterpoise/counterpoise/store/Records$Kind", "holds", "([B)Z"⟩ : MethodName) prog_91_method_5_code 2 (some .boolean) :: ws) ({ frames := 0, cells := 0, slots := 0, locals := 0 } : Room)) (fun a U => a = #[(.ref a1), (.ref a2)] ∧ Z.Warmed39 U.vm ∧ U.heap = h0) (fun _ _ _ _ _ => True) (fun _ U o U' => ∃ v L, o = .returned v ∧ Q2_3 Z a1 a2 k w v0 v1 v2 h0 n0 v U'.heap L ∧ FrameEnd U o U' L ({ frames := 0, cells := 0, slots := 0, locals := 0 } : Room).cells ({ frames := 0, cells := 0, slots := 0, locals := 0 } : Room).slots) := by
  refine MetFree.of_bodySF (plainFor_of_name own_pn0) hisR ?_
  intro p e s m args below meth c s₁ Bd hml0 hP hK
  obtain ⟨rfl, hZ, hh⟩ := hP
  have hx := Bd.exec
  have hby := Bd.bytes
  have hml : c.maxLocals = 2 := hml0
  have hown : s.vm.findClass "com/example/counterpoise/counterpoise/store/Records$Kind" = some m.cls := findClass_of_methodNamed Bd.named
  have hnm := (name_of_methodNamed Bd.named Bd.method).1
  have X0 : Stand p l e ({ frames := 0, cells := 0, slots := 0, locals := 0 } : Room) s m #[(.ref a1), (.ref a2)] below meth c s₁ [] 0 0 := Stand.of_body Bd
  have e0 : s₁.heap = h0 := by rw [← hh, Bd.state]; rfl
  have N0 := Fr.nil n0
  have K0 : Keep h0 h0 [] := Keep.refl h0 _
  have pre0 : ∀ t, Steps p.tables e below (s₁.setTop (mkF m 0 #[.val (.ref a1), .val (.ref a2)] [])) t → Steps p.tables e below (s₁.setTop (entryFrame m #[(.ref a1), (.ref a2)] 2)) t := fun t k => castTop (own_ef_rm2_3 m a1 a2) k
  obtain ⟨cl28, Ar28, q28, S28, M28, H28, G28⟩ := id V_a2
  obtain ⟨cl29, Ar29, q29, S29, M29, H29, G29⟩ := id V_a2
  have hin29 : ¬ ((0 : Int32) < 0 ∨ cl29.slots.size ≤ ((0 : Int32)).toNatClampNeg) := inb_of S29 ⟨by decide, by decide⟩
  have hat29 : cl29.slots[((0 : Int32)).toNatClampNeg]? = some (.int v0) := Has.at H29 hin29 rfl
  obtain ⟨T30, X30, e30, st30⟩ := getF X0 hx hZ hown (host := "") (Or.inl (hw _ (List.mem_of_getElem? (i := 10) rfl))) Via.refl e0 F_a1_tag (g := (mkF m 9 #[.val (.ref a1), .val (.ref a2)] [(.ref a1), (.int v0)])) rfl rfl (hb hby own_d2_9)
  have pre31 : ∀ t, Steps p.tables e below (T30.setTop (mkF m 12 #[.val (.ref a1), .val (.ref a2)] [(.int w), (.int v0)])) t → Steps p.tables e below (s₁.setTop (entryFrame m #[(.ref a1), (.ref a2)] 2)) t := fun t k => by
    refine pre0 _ ?_
    show Steps p.tables e below (s₁.setTop (mkF m 0 #[.val (.ref a1), .val (.ref a2)] [])) _
    refine XS.aloadN X0.here hx rfl (hb hby own_d2_0) rfl rfl ?_
    show Steps p.tables e below (s₁.setTop (mkF m 1 #[.val (.ref a1), .val (.ref a2)] [(.ref a2)])) _
    refine X0.arraylength hx (by rw [e0]; exact Ar28.1) (State.isArrayOf_alike hZ.alike Ar28.2.1) (g := (mkF m 1 #[.val (.ref a1), .val (.ref a2)] [(.ref a2)])) rfl rfl (hb hby own_d2_1) _ ?_
    rw [len_of S28 M28]
    show Steps p.tables e below (s₁.setTop (mkF m 2 #[.val (.ref a1), .val (.ref a2)] [(.int (3 : Int32))])) _
    refine XS.ifNo X0.here hx rfl (hb hby own_d2_2) rfl ((if0 _ _).trans (tlt (by decide : ((0 : Int32) < (3 : Int32)))).2.2.2) ?_
    show Steps p.tables e below (s₁.setTop (mkF m 5 #[.val (.ref a1), .val (.ref a2)] [])) _
    refine XS.aloadN X0.here hx rfl (hb hby own_d2_5) rfl rfl ?_
    show Steps p.tables e below (s₁.setTop (mkF m 6 #[.val (.ref a1), .val (.ref a2)] [(.ref a2)])) _
    refine XS.iconst X0.here hx rfl (hb hby own_d2_6) ?_
    show Steps p.tables e below (s₁.setTop (mkF m 7 #[.val (.ref a1), .val (.ref a2)] [(.int (0 : Int32)), (.ref a2)])) _
    refine X0.baloadBytes hx (j := (0 : Int32)) (v := (.int v0)) (by rw [e0]; exact Ar29.1) (State.isArrayOf_alike hZ.alike Ar29.2.1) Ar29.2.2 hin29 hat29 (g := (mkF m 7 #[.val (.ref a1), .val (.ref a2)] [(.int (0 : Int32)), (.ref a2)])) rfl rfl (hb hby own_d2_7) _ ?_
    show Steps p.tables e below (s₁.setTop (mkF m 8 #[.val (.ref a1), .val (.ref a2)] [(.int v0)])) _
    refine XS.aloadN X0.here hx rfl (hb hby own_d2_8) rfl rfl ?_
    show Steps p.tables e below (s₁.setTop (mkF m 9 #[.val (.ref a1), .val (.ref a2)] [(.ref a1), (.int v0)])) _
    refine st30 _ ?_
    exact k
  by_cases hc12 : v0 = w
  · obtain ⟨fs, hr, hrun, hended, hW, hsame⟩ := X30.leave (v := some (.int (1 : Int32))) (fun h => by rw [Bd.returns] at h; cases h)
    refine ⟨_, _, pre31 _ ?_, hrun, hended, _, _, rfl, ?_, ⟨_, rfl⟩, hW, hsame.mono (by decide) (by decide)⟩
    · show Steps p.tables e below (T30.setTop (mkF m 12 #[.val (.ref a1), .val (.ref a2)] [(.int w), (.int v0)])) _
      refine XS.icmpNo X30.here hx rfl (hb hby own_d2_12) rfl (teq hc12).2 ?_
      show Steps p.tables e below (T30.setTop (mkF m 15 #[.val (.ref a1), .val (.ref a2)] [])) _
      refine XS.iconst X30.here hx rfl (hb hby own_d2_15) ?_
      show Steps p.tables e below (T30.setTop (mkF m 16 #[.val (.ref a1), .val (.ref a2)] [(.int (1 : Int32))])) _
      refine XS.goto X30.here hx rfl (pc0 := 16) (pc' := 20) rfl (hb hby own_d2_16) (by decide) (by decide) ?_
      show Steps p.tables e below (T30.setTop (mkF m 20 #[.val (.ref a1), .val (.ref a2)] [(.int (1 : Int32))])) _
      exact retN X30 hx (t := .boolean) Bd.returns (by simp) (hb hby own_d2_20) hr
    · show Q2_3 Z a1 a2 k w v0 v1 v2 h0 n0 _ T30.heap _
      rw [e30]
      exact ⟨(congrArg (fun z => some (Value.int z)) (by unfold own_f_rm2_3; rw [if_pos hc12] : (1 : Int32) = (own_f_rm2_3 w v0))), N0, rfl⟩
  · obtain ⟨fs, hr, hrun, hended, hW, hsame⟩ := X30.leave (v := some (.int (0 : Int32))) (fun h => by rw [Bd.returns] at h; cases h)
    refine ⟨_, _, pre31 _ ?_, hrun, hended, _, _, rfl, ?_, ⟨_, rfl⟩, hW, hsame.mono (by decide) (by decide)⟩
    · show Steps p.tables e below (T30.setTop (mkF m 12 #[.val (.ref a1), .val (.ref a2)] [(.int w), (.int v0)])) _
      refine XS.icmpYes X30.here hx rfl (pc0 := 12) (pc' := 19) rfl (hb hby own_d2_12) rfl (feq hc12).2 (by decide) (by decide) ?_
      show Steps p.tables e below (T30.setTop (mkF m 19 #[.val (.ref a1), .val (.ref a2)] [])) _
      refine XS.iconst X30.here hx rfl (hb hby own_d2_19) ?_
      show Steps p.tables e below (T30.setTop (mkF m 20 #[.val (.ref a1), .val (.ref a2)] [(.int (0 : Int32))])) _
      exact retN X30 hx (t := .boolean) Bd.returns (by simp) (hb hby own_d2_20) hr
    · show Q2_3 Z a1 a2 k w v0 v1 v2 h0 n0 _ T30.heap _
      rw [e30]
      exact ⟨(congrArg (fun z => some (Value.int z)) (by unfold own_f_rm2_3; rw [if_neg hc12] : (0 : Int32) = (own_f_rm2_3 w v0))), N0, rfl⟩

theorem own_n (x : Int32) : (x &&& (3 : Int32)) = (0 : Int32) ∨ (x &&& (3 : Int32)) = (1 : Int32) ∨ (x &&& (3 : Int32)) = (2 : Int32) ∨ (x &&& (3 : Int32)) = (3 : Int32) := by
  have h1 := c_mask x 3 2 (by decide) (by decide)
  simp only [← Int32.toInt_inj]
  have e0 : (0 : Int32).toInt = 0 := by decide
  have e1 : (1 : Int32).toInt = 1 := by decide
  have e2 : (2 : Int32).toInt = 2 := by decide
  have e3 : (3 : Int32).toInt = 3 := by decide
  omega
theorem own_bt (x t : Int32) (h : 0 ≤ t.toInt ∧ t.toInt < 128) : nar .byte (x.toInt8.toInt32) = t ↔ (x &&& (255 : Int32)) = t := by
  have h1 := c_i2b x
  have h2 := c_i2b (x.toInt8.toInt32)
  have h3 := c_mask x 255 8 (by decide) (by decide)
  show x.toInt8.toInt32.toInt8.toInt32 = t ↔ _
  rw [← Int32.toInt_inj, ← Int32.toInt_inj]
  omega
theorem own_nt (t : Int32) (h : 0 ≤ t.toInt ∧ t.toInt < 128) : nar .byte t = t := by
  have h2 := c_i2b t
  show t.toInt8.toInt32 = t
  rw [← Int32.toInt_inj]
  omega
theorem own_pd0 : parseMethodDescriptor "()[B" = some ⟨[], some (.array .byte)⟩ := by decide +kernel
theorem own_pd1 : parseMethodDescriptor "([B)Z" = some ⟨[(.array .byte)], some .boolean⟩ := by decide +kernel
theorem own_join {A G : Prop} (h1 : A → G) (h2 : A) : G := h1 h2
theorem own_pn1 : plainName "com/example/counterpoise/counterpoise/store/KindHoldsPinLaw" = true := by first | (simp [plainName, overriddenIn]; done) | decide +kernel
theorem own_ef_rm0 (m : MethodId) (p0 : Int32) (p1 : Int32) (p2 : Int32) (p3 : Int32) : entryFrame m #[(.int p0), (.int p1), (.int p2), (.int p3)] maxLocals = mkF m 0 #[.val (.int p0), .val (.int p1), .val (.int p2), .val (.int p3), .unset, .unset, .unset, .unset, .unset, .unset, .unset] [] := by first | (simp [entryFrame, mkF, argsToLocals, Value.category, maxLocals]; done) | rfl
def Q0 (Z : State) (p0 : Int32) (p1 : Int32) (p2 : Int32) (p3 : Int32) (o0 : Addr) (o1 : Addr) (o2 : Addr) (o3 : Addr) (o4 : Addr) (o5 : Addr) (o6 : Addr) (o7 : Addr) (o8 : Addr) (h0 : Heap) (n0 : Nat) (v : Option Value) (h : Heap) (L : List Loc) : Prop := v = some (.int (1 : Int32)) ∧ Fr n0 L
set_option maxRecDepth 65536 in
set_option maxHeartbeats 40000000 in
theorem rm0 (l : Launch) (Z : State) (a0 : Array Value) (hw : ∀ d ∈ tables_1, d.before a0 Z = true) (ws : List Jvm.Cond) (p0 : Int32) (p1 : Int32) (p2 : Int32) (p3 : Int32) (o0 : Addr) (o1 : Addr) (o2 : Addr) (o3 : Addr) (o4 : Addr) (o5 : Addr) (o6 : Addr) (o7 : Addr) (o8 : Addr) (h0 : Heap) (n0 : Nat) (Z0 : n0 ≤ h0.size) (S_ACCOUNT : Sta Z h0 "com/example/counterpoise/counterpoise/store/Records$Kind" "ACCOUNT" "Lcom/example/counterpoise/counterpoise/store/Records$Kind;" (.ref o0)) (E_o0 : Exa Z h0 o0 "com/example/counterpoise/counterpoise/store/Records$Kind") (F_o0_tag : Fld Z h0 o0 "com/example/counterpoise/counterpoise/store/Records$Kind" "tag" "B" (.int (97 : Int32))) (S_TOTALS : Sta Z h0 "com/example/counterpoise/counterpoise/store/Records$Kind" "TOTALS" "Lcom/example/counterpoise/counterpoise/store/Records$Kind;" (.ref o1)) (E_o1 : Exa Z h0 o1 "com/example/counterpoise/counterpoise/store/Records$Kind") (F_o1_tag : Fld Z h0 o1 "com/example/counterpoise/counterpoise/store/Records$Kind" "tag" "B" (.int (98 : Int32))) (S_TRANSACTION : Sta Z h0 "com/example/counterpoise/counterpoise/store/Records$Kind" "TRANSACTION" "Lcom/example/counterpoise/counterpoise/store/Records$Kind;" (.ref o2)) (E_o2 : Exa Z h0 o2 "com/example/counterpoise/counterpoise/store/Records$Kind") (F_o2_tag : Fld Z h0 o2 "com/example/counterpoise/counterpoise/store/Records$Kind" "tag" "B" (.int (116 : Int32))) (S_ID : Sta Z h0 "com/example/counterpoise/counterpoise/store/Records$Kind" "ID" "Lcom/example/counterpoise/counterpoise/store/Records$Kind;" (.ref o3)) (E_o3 : Exa Z h0 o3 "com/example/counterpoise/counterpoise/store/Records$Kind") (F_o3_tag : Fld Z h0 o3 "com/example/counterpoise/counterpoise/store/Records$Kind" "tag" "B" (.int (105 : Int32))) (S_REVERSAL : Sta Z h0 "com/example/counterpoise/counterpoise/store/Records$Kind" "REVERSAL" "Lcom/example/counterpoise/counterpoise/store/Records$Kind;" (.ref o4)) (E_o4 : Exa Z h0 o4 "com/example/counterpoise/counterpoise/store/Records$Kind") (F_o4_tag : Fld Z h0 o4 "com/example/counterpoise/counterpoise/store/Records$Kind" "tag" "B" (.int (114 : Int32))) (S_ENTRY : Sta Z h0 "com/example/counterpoise/counterpoise/store/Records$Kind" "ENTRY" "Lcom/example/counterpoise/counterpoise/store/Records$Kind;" (.ref o5)) (E_o5 : Exa Z h0 o5 "com/example/counterpoise/counterpoise/store/Records$Kind") (F_o5_tag : Fld Z h0 o5 "com/example/counterpoise/counterpoise/store/Records$Kind" "tag" "B" (.int (101 : Int32))) (S_UNIT : Sta Z h0 "com/example/counterpoise/counterpoise/store/Records$Kind" "UNIT" "Lcom/example/counterpoise/counterpoise/store/Records$Kind;" (.ref o6)) (E_o6 : Exa Z h0 o6 "com/example/counterpoise/counterpoise/store/Records$Kind") (F_o6_tag : Fld Z h0 o6 "com/example/counterpoise/counterpoise/store/Records$Kind" "tag" "B" (.int (117 : Int32))) (S_TENANT : Sta Z h0 "com/example/counterpoise/counterpoise/store/Records$Kind" "TENANT" "Lcom/example/counterpoise/counterpoise/store/Records$Kind;" (.ref o7)) (E_o7 : Exa Z h0 o7 "com/example/counterpoise/counterpoise/store/Records$Kind") (F_o7_tag : Fld Z h0 o7 "com/example/counterpoise/counterpoise/store/Records$Kind" "tag" "B" (.int (110 : Int32))) (S_DIGITS : Sta Z h0 "com/example/counterpoise/counterpoise/store/Records$Kind" "DIGITS" "Lcom/example/counterpoise/counterpoise/store/Records$Kind;" (.ref o8)) (E_o8 : Exa Z h0 o8 "com/example/counterpoise/counterpoise/store/Records$Kind") (F_o8_tag : Fld Z h0 o8 "com/example/counterpoise/counterpoise/store/Records$Kind" "tag" "B" (.int (100 : Int32))) :
    MetFree l x (head1 (Jvm.Cond.code x code maxLocals ret :: ws) room_1) (fun a U => a = #[(.int p0), (.int p1), (.int p2), (.int p3)] ∧ Z.Warmed39 U.vm ∧ U.heap = h0) (fun _ _ _ _ _ => True) (fun _ U o U' => ∃ v L, o = .returned v ∧ Q0 Z p0 p1 p2 p3 o0 o1 o2 o3 o4 o5 o6 o7 o8 h0 n0 v U'.heap L ∧ FrameEnd U o U' L room_1.cells room_1.slots) := by
  refine MetFree.of_bodySF (plainFor_of_name own_pn1) hisR ?_
  intro p e s m args below meth c s₁ Bd hml0 hP hK
  obtain ⟨rfl, hZ, hh⟩ := hP
  have hx := Bd.exec
  have hby := Bd.bytes
  have hml : c.maxLocals = 11 := hml0
  have hown : s.vm.findClass "com/example/counterpoise/counterpoise/store/KindHoldsPinLaw" = some m.cls := findClass_of_methodNamed Bd.named
  have hnm := (name_of_methodNamed Bd.named Bd.method).1
  have X0 : Stand p l e room_1 s m #[(.int p0), (.int p1), (.int p2), (.int p3)] below meth c s₁ [] 0 0 := Stand.of_body Bd
  have e0 : s₁.heap = h0 := by rw [← hh, Bd.state]; rfl
  have N0 := Fr.nil n0
  have K0 : Keep h0 h0 [] := Keep.refl h0 _
  have pre0 : ∀ t, Steps p.tables e below (s₁.setTop (mkF m 0 #[.val (.int p0), .val (.int p1), .val (.int p2), .val (.int p3), .unset, .unset, .unset, .unset, .unset, .unset, .unset] [])) t → Steps p.tables e below (s₁.setTop (entryFrame m #[(.int p0), (.int p1), (.int p2), (.int p3)] maxLocals)) t := fun t k => castTop (own_ef_rm0 m p0 p1 p2 p3) k
  refine own_join (A := ∃ (o : Addr) (tg : Int32) (TJ : State), Stand p l e room_1 s m #[(.int p0), (.int p1), (.int p2), (.int p3)] below meth c TJ [] 0 0 ∧ TJ.heap = h0 ∧ (∀ t, Steps p.tables e below (TJ.setTop (mkF m 163 #[.val (.int p0), .val (.int p1), .val (.int p2), .val (.int p3), .val (.int ((p0 &&& (2147483647 : Int32)) % (9 : Int32))), .val (.ref o), .val (.int tg), .unset, .unset, .unset, .unset] [])) t → Steps p.tables e below (s₁.setTop (entryFrame m #[(.int p0), (.int p1), (.int p2), (.int p3)] maxLocals)) t) ∧ (Exa Z h0 o "com/example/counterpoise/counterpoise/store/Records$Kind") ∧ (Fld Z h0 o "com/example/counterpoise/counterpoise/store/Records$Kind" "tag" "B" (.int tg)) ∧ (0 ≤ tg.toInt ∧ tg.toInt < 128)) ?_ ?_
  · rintro ⟨o, tg, TJ, XJ, eJ, preJ, E_o, F_o_tag, htg⟩
    have pre58 : ∀ t, Steps p.tables e below (TJ.setTop (mkF m 168 #[.val (.int p0), .val (.int p1), .val (.int p2), .val (.int p3), .val (.int ((p0 &&& (2147483647 : Int32)) % (9 : Int32))), .val (.ref o), .val (.int tg), .val (.int (p1 &&& (3 : Int32))), .unset, .unset, .unset] [])) t → Steps p.tables e below (s₁.setTop (entryFrame m #[(.int p0), (.int p1), (.int p2), (.int p3)] maxLocals)) t := fun t k => by
      refine preJ _ ?_
      show Steps p.tables e below (TJ.setTop (mkF m 163 #[.val (.int p0), .val (.int p1), .val (.int p2), .val (.int p3), .val (.int ((p0 &&& (2147483647 : Int32)) % (9 : Int32))), .val (.ref o), .val (.int tg), .unset, .unset, .unset, .unset] [])) _
      refine XS.iloadN XJ.here hx rfl (hb hby at_163) rfl ?_
      show Steps p.tables e below (TJ.setTop (mkF m 164 #[.val (.int p0), .val (.int p1), .val (.int p2), .val (.int p3), .val (.int ((p0 &&& (2147483647 : Int32)) % (9 : Int32))), .val (.ref o), .val (.int tg), .unset, .unset, .unset, .unset] [(.int p1)])) _
      refine XS.iconst XJ.here hx rfl (hb hby at_164) ?_
      show Steps p.tables e below (TJ.setTop (mkF m 165 #[.val (.int p0), .val (.int p1), .val (.int p2), .val (.int p3), .val (.int ((p0 &&& (2147483647 : Int32)) % (9 : Int32))), .val (.ref o), .val (.int tg), .unset, .unset, .unset, .unset] [(.int (3 : Int32)), (.int p1)])) _
      refine XS.iand XJ.here hx rfl (hb hby at_165) rfl ?_
      show Steps p.tables e below (TJ.setTop (mkF m 166 #[.val (.int p0), .val (.int p1), .val (.int p2), .val (.int p3), .val (.int ((p0 &&& (2147483647 : Int32)) % (9 : Int32))), .val (.ref o), .val (.int tg), .unset, .unset, .unset, .unset] [(.int (p1 &&& (3 : Int32)))])) _
      refine XS.istore XJ.here hx rfl (hb hby at_166) rfl (l' := #[.val (.int p0), .val (.int p1), .val (.int p2), .val (.int p3), .val (.int ((p0 &&& (2147483647 : Int32)) % (9 : Int32))), .val (.ref o), .val (.int tg), .val (.int (p1 &&& (3 : Int32))), .unset, .unset, .unset]) rfl ?_
      exact k
    rcases own_n p1 with hk | hk | hk | hk
    · obtain ⟨T59, h59, k59, X59, e59, E59, A59, st59⟩ := newP XJ hx hZ (hw _ (List.mem_of_getElem? (i := 4) rfl)) eJ (g := (mkF m 170 #[.val (.int p0), .val (.int p1), .val (.int p2), .val (.int p3), .val (.int ((p0 &&& (2147483647 : Int32)) % (9 : Int32))), .val (.ref o), .val (.int tg), .val (.int (0 : Int32)), .unset, .unset, .unset] [(.int (0 : Int32))])) rfl (hb hby at_170) rfl (by decide) (cap := 0) (by decide) (by decide) (by decide) (by decide)
      obtain ⟨b59, g59⟩ : ∃ z, z = h0.size := ⟨_, rfl⟩
      rw [← g59] at A59 st59
      have ne_o0_b59 : o0 ≠ b59 := Nat.ne_of_lt (Nat.lt_of_lt_of_le E_o0.lt (Nat.le_of_eq g59.symm))
      have ne_o1_b59 : o1 ≠ b59 := Nat.ne_of_lt (Nat.lt_of_lt_of_le E_o1.lt (Nat.le_of_eq g59.symm))
      have ne_o2_b59 : o2 ≠ b59 := Nat.ne_of_lt (Nat.lt_of_lt_of_le E_o2.lt (Nat.le_of_eq g59.symm))
      have ne_o3_b59 : o3 ≠ b59 := Nat.ne_of_lt (Nat.lt_of_lt_of_le E_o3.lt (Nat.le_of_eq g59.symm))
      have ne_o4_b59 : o4 ≠ b59 := Nat.ne_of_lt (Nat.lt_of_lt_of_le E_o4.lt (Nat.le_of_eq g59.symm))
      have ne_o5_b59 : o5 ≠ b59 := Nat.ne_of_lt (Nat.lt_of_lt_of_le E_o5.lt (Nat.le_of_eq g59.symm))
      have ne_o6_b59 : o6 ≠ b59 := Nat.ne_of_lt (Nat.lt_of_lt_of_le E_o6.lt (Nat.le_of_eq g59.symm))
      have ne_o7_b59 : o7 ≠ b59 := Nat.ne_of_lt (Nat.lt_of_lt_of_le E_o7.lt (Nat.le_of_eq g59.symm))
      have ne_o8_b59 : o8 ≠ b59 := Nat.ne_of_lt (Nat.lt_of_lt_of_le E_o8.lt (Nat.le_of_eq g59.symm))
      have ne_o_b59 : o ≠ b59 := Nat.ne_of_lt (Nat.lt_of_lt_of_le E_o.lt (Nat.le_of_eq g59.symm))
      have gg_b59 : n0 ≤ b59 := Nat.le_trans (Nat.le_trans Z0 K0.1) (Nat.le_of_eq g59.symm)
      have sz_b59 : h0.size ≤ b59 := Nat.le_trans K0.1 (Nat.le_of_eq g59.symm)
      have K59 := K0.ext E59
      have V59 : Arv Z h59 b59 k59 .byte (0 : Int32) [] (.int (0 : Int32)) := (Arv.new A59 (by decide)).pad (pad_rep [] (.int (0 : Int32)) 0)
      have Q60 := (F_o_tag.ext E59)
      have Q62 := (E_o.ext E59)
      obtain ⟨cq61, kq61, q61a, q61b, q61c⟩ := isOf hZ e59 Q62
      obtain ⟨_, _, ⟨T61, L61, k61, n61⟩, -, X61, ⟨Lc61, hQ61, l61, y61, z61⟩, st61⟩ := X59.virtualBack hx (y := (⟨"com/example/counterpoise/counterpoise/store/Records$Kind", "prefix", "()[B"⟩ : MethodName)) (z := (⟨"com/example/counterpoise/counterpoise/store/Records$Kind", "prefix", "()[B"⟩ : MethodName)) hown (mvT hZ (hw _ (List.mem_of_getElem? (i := 5) rfl))) (mvT hZ (hw _ (List.mem_of_getElem? (i := 6) rfl))) (notFace_of_selects (args := #[]) (mvT hZ (hw _ (List.mem_of_getElem? (i := 8) rfl)))) (mvT hZ (hw _ (List.mem_of_getElem? (i := 8) rfl))) (mvT hZ (hw _ (List.mem_of_getElem? (i := 7) rfl))) (by decide) (backOf (W := 0) (rm1 l Z a0 hw [] o tg h59 n0 (Nat.le_trans Z0 K59.1) Q60) hZ (hw _ (List.mem_of_getElem? (i := 9) rfl)) (hw _ (List.mem_of_getElem? (i := 2) rfl)) (by decide) (by decide)) q61a q61c (g := (mkF m 236 #[.val (.int p0), .val (.int p1), .val (.int p2), .val (.int p3), .val (.int ((p0 &&& (2147483647 : Int32)) % (9 : Int32))), .val (.ref o), .val (.int tg), .val (.int (0 : Int32)), .val (.ref b59), .val (.int (0 : Int32)), .unset] [(.ref o)])) rfl (by rw [hml]; rfl) (Steps.refl _) (argsL := []) (rest := []) (lenOf own_pd0 rfl) rfl (by show 2 * 0 + _ ≤ _; exact Nat.le_of_eq rfl) (hb hby at_236) (fun _ _ => ⟨rfl, e59, (by decide : 1 + 1 ≤ _), (by decide : 0 + 1 ≤ _)⟩)
      dsimp only [Pt.U, Pt.locs, Pt.cells, Pt.slots] at X61 l61 y61 z61 st61 hQ61
      subst l61 y61 z61
      obtain ⟨b_61, k_61, rfl, N61q, i61_4, i61_5, i61_6⟩ := hQ61
      have N61 := Fr.app N0 N61q
      have Q63 := (E_o0.ext E59)
      have ne_o0_b_61 : o0 ≠ b_61 := Nat.ne_of_lt (Nat.lt_of_lt_of_le Q63.lt i61_5)
      have Q64 := (E_o1.ext E59)
      have ne_o1_b_61 : o1 ≠ b_61 := Nat.ne_of_lt (Nat.lt_of_lt_of_le Q64.lt i61_5)
      have Q65 := (E_o2.ext E59)
      have ne_o2_b_61 : o2 ≠ b_61 := Nat.ne_of_lt (Nat.lt_of_lt_of_le Q65.lt i61_5)
      have Q66 := (E_o3.ext E59)
      have ne_o3_b_61 : o3 ≠ b_61 := Nat.ne_of_lt (Nat.lt_of_lt_of_le Q66.lt i61_5)
      have Q67 := (E_o4.ext E59)
      have ne_o4_b_61 : o4 ≠ b_61 := Nat.ne_of_lt (Nat.lt_of_lt_of_le Q67.lt i61_5)
      have Q68 := (E_o5.ext E59)
      have ne_o5_b_61 : o5 ≠ b_61 := Nat.ne_of_lt (Nat.lt_of_lt_of_le Q68.lt i61_5)
      have Q69 := (E_o6.ext E59)
      have ne_o6_b_61 : o6 ≠ b_61 := Nat.ne_of_lt (Nat.lt_of_lt_of_le Q69.lt i61_5)
      have Q70 := (E_o7.ext E59)
      have ne_o7_b_61 : o7 ≠ b_61 := Nat.ne_of_lt (Nat.lt_of_lt_of_le Q70.lt i61_5)
      have Q71 := (E_o8.ext E59)
      have ne_o8_b_61 : o8 ≠ b_61 := Nat.ne_of_lt (Nat.lt_of_lt_of_le Q71.lt i61_5)
      have ne_o_b_61 : o ≠ b_61 := Nat.ne_of_lt (Nat.lt_of_lt_of_le Q62.lt i61_5)
      have ne_b59_b_61 : b59 ≠ b_61 := Nat.ne_of_lt (Nat.lt_of_lt_of_le V59.lt i61_5)
      have gg_b_61 : n0 ≤ b_61 := Nat.le_trans (Nat.le_trans Z0 K59.1) i61_5
      have sz_b_61 : h0.size ≤ b_61 := Nat.le_trans K59.1 i61_5
      have K61 := K59.trans i61_4 all0
      have Q72 := (Q60.keep i61_4 nin0)
      have Q73 := (V59.keep i61_4 nin0)
      have Q75 := (Q62.keep i61_4)
      obtain ⟨cq74, kq74, q74a, q74b, q74c⟩ := isOf hZ rfl Q75
      obtain ⟨_, _, ⟨T74, L74, k74, n74⟩, -, X74, ⟨Lc74, hQ74, l74, y74, z74⟩, st74⟩ := X61.virtualBack hx (y := (⟨"com/example/counterpoise/counterpoise/store/Records$Kind", "holds", "([B)Z"⟩ : MethodName)) (z := (⟨"com/example/counterpoise/counterpoise/store/Records$Kind", "holds", "([B)Z"⟩ : MethodName)) hown (mvT hZ (hw _ (List.mem_of_getElem? (i := 12) rfl))) (mvT hZ (hw _ (List.mem_of_getElem? (i := 13) rfl))) (notFace_of_selects (args := #[]) (mvT hZ (hw _ (List.mem_of_getElem? (i := 15) rfl)))) (mvT hZ (hw _ (List.mem_of_getElem? (i := 15) rfl))) (mvT hZ (hw _ (List.mem_of_getElem? (i := 14) rfl))) (by decide) (backOf (W := 0) (rm2_0 l Z a0 hw [] o b59 k59 tg T61.heap n0 (Nat.le_trans Z0 K61.1) Q72 Q73) hZ (hw _ (List.mem_of_getElem? (i := 16) rfl)) (hw _ (List.mem_of_getElem? (i := 2) rfl)) (by decide) (by decide)) q74a q74c (g := (mkF m 245 #[.val (.int p0), .val (.int p1), .val (.int p2), .val (.int p3), .val (.int ((p0 &&& (2147483647 : Int32)) % (9 : Int32))), .val (.ref o), .val (.int tg), .val (.int (0 : Int32)), .val (.ref b59), .val (.int (0 : Int32)), .val (.ref b_61)] [(.ref b59), (.ref o)])) rfl (by rw [hml]; rfl) (Steps.refl _) (argsL := [(.ref b59)]) (rest := []) (lenOf own_pd1 rfl) rfl (by show 2 * 0 + _ ≤ _; exact Nat.le_of_eq rfl) (hb hby at_245) (fun _ _ => ⟨rfl, rfl, (by decide : 2 + 0 ≤ _), (by decide : 1 + 0 ≤ _)⟩)
      dsimp only [Pt.U, Pt.locs, Pt.cells, Pt.slots] at X74 l74 y74 z74 st74 hQ74
      subst l74 y74 z74
      obtain ⟨rfl, N74q, e74⟩ := hQ74
      have N74 := Fr.app N61 N74q
      have hc250_76 : (own_f_rm2_0 tg) = (0 : Int32) := by unfold own_f_rm2_0; first | rfl | decide
      obtain ⟨cq77, kq77, q77a, q77b, q77c⟩ := isOf hZ e74 Q75
      obtain ⟨_, _, ⟨T77, L77, k77, n77⟩, -, X77, ⟨Lc77, hQ77, l77, y77, z77⟩, st77⟩ := X74.virtualBack hx (y := (⟨"com/example/counterpoise/counterpoise/store/Records$Kind", "holds", "([B)Z"⟩ : MethodName)) (z := (⟨"com/example/counterpoise/counterpoise/store/Records$Kind", "holds", "([B)Z"⟩ : MethodName)) hown (mvT hZ (hw _ (List.mem_of_getElem? (i := 12) rfl))) (mvT hZ (hw _ (List.mem_of_getElem? (i := 13) rfl))) (notFace_of_selects (args := #[]) (mvT hZ (hw _ (List.mem_of_getElem? (i := 15) rfl)))) (mvT hZ (hw _ (List.mem_of_getElem? (i := 15) rfl))) (mvT hZ (hw _ (List.mem_of_getElem? (i := 14) rfl))) (by decide) (backOf (W := 0) (rm2_1 l Z a0 hw [] o b_61 k_61 tg (nar .byte tg) T61.heap n0 (Nat.le_trans Z0 K61.1) Q72 i61_6) hZ (hw _ (List.mem_of_getElem? (i := 16) rfl)) (hw _ (List.mem_of_getElem? (i := 2) rfl)) (by decide) (by decide)) q77a q77c (g := (mkF m 257 #[.val (.int p0), .val (.int p1), .val (.int p2), .val (.int p3), .val (.int ((p0 &&& (2147483647 : Int32)) % (9 : Int32))), .val (.ref o), .val (.int tg), .val (.int (0 : Int32)), .val (.ref b59), .val (.int (0 : Int32)), .val (.ref b_61)] [(.ref b_61), (.ref o)])) rfl (by rw [hml]; rfl) (Steps.refl _) (argsL := [(.ref b_61)]) (rest := []) (lenOf own_pd1 rfl) rfl (by show 2 * 0 + _ ≤ _; exact Nat.le_of_eq rfl) (hb hby at_257) (fun _ _ => ⟨rfl, e74, (by decide : 2 + 0 ≤ _), (by decide : 1 + 0 ≤ _)⟩)
      dsimp only [Pt.U, Pt.locs, Pt.cells, Pt.slots] at X77 l77 y77 z77 st77 hQ77
      subst l77 y77 z77
      obtain ⟨rfl, N77q, e77⟩ := hQ77
      have N77 := Fr.app N74 N77q
      have hc260_78 : ¬ ((own_f_rm2_1 tg (nar .byte tg)) = (0 : Int32)) := by unfold own_f_rm2_1; rw [if_pos (own_nt tg htg)]; decide
      obtain ⟨fs, hr, hrun, hended, hW, hsame⟩ := X77.leave (v := some (.int (1 : Int32))) (fun h => by rw [Bd.returns] at h; cases h)
      refine ⟨_, _, pre58 _ ?_, hrun, hended, _, _, rfl, ?_, ⟨_, rfl⟩, hW, hsame.mono (by decide) (by decide)⟩
      · show Steps p.tables e below (TJ.setTop (mkF m 168 #[.val (.int p0), .val (.int p1), .val (.int p2), .val (.int p3), .val (.int ((p0 &&& (2147483647 : Int32)) % (9 : Int32))), .val (.ref o), .val (.int tg), .val (.int (p1 &&& (3 : Int32))), .unset, .unset, .unset] [])) _
        rw [hk]
        show Steps p.tables e below (TJ.setTop (mkF m 168 #[.val (.int p0), .val (.int p1), .val (.int p2), .val (.int p3), .val (.int ((p0 &&& (2147483647 : Int32)) % (9 : Int32))), .val (.ref o), .val (.int tg), .val (.int (0 : Int32)), .unset, .unset, .unset] [])) _
        refine XS.iload XJ.here hx rfl (hb hby at_168) rfl ?_
        show Steps p.tables e below (TJ.setTop (mkF m 170 #[.val (.int p0), .val (.int p1), .val (.int p2), .val (.int p3), .val (.int ((p0 &&& (2147483647 : Int32)) % (9 : Int32))), .val (.ref o), .val (.int tg), .val (.int (0 : Int32)), .unset, .unset, .unset] [(.int (0 : Int32))])) _
        refine st59 _ ?_
        show Steps p.tables e below (T59.setTop (mkF m 172 #[.val (.int p0), .val (.int p1), .val (.int p2), .val (.int p3), .val (.int ((p0 &&& (2147483647 : Int32)) % (9 : Int32))), .val (.ref o), .val (.int tg), .val (.int (0 : Int32)), .unset, .unset, .unset] [(.ref b59)])) _
        refine XS.astore X59.here hx rfl (hb hby at_172) rfl rfl (l' := #[.val (.int p0), .val (.int p1), .val (.int p2), .val (.int p3), .val (.int ((p0 &&& (2147483647 : Int32)) % (9 : Int32))), .val (.ref o), .val (.int tg), .val (.int (0 : Int32)), .val (.ref b59), .unset, .unset]) rfl ?_
        show Steps p.tables e below (T59.setTop (mkF m 174 #[.val (.int p0), .val (.int p1), .val (.int p2), .val (.int p3), .val (.int ((p0 &&& (2147483647 : Int32)) % (9 : Int32))), .val (.ref o), .val (.int tg), .val (.int (0 : Int32)), .val (.ref b59), .unset, .unset] [])) _
        refine XS.iload X59.here hx rfl (hb hby at_174) rfl ?_
        show Steps p.tables e below (T59.setTop (mkF m 176 #[.val (.int p0), .val (.int p1), .val (.int p2), .val (.int p3), .val (.int ((p0 &&& (2147483647 : Int32)) % (9 : Int32))), .val (.ref o), .val (.int tg), .val (.int (0 : Int32)), .val (.ref b59), .unset, .unset] [(.int (0 : Int32))])) _
        refine XS.ifYes X59.here hx rfl (pc0 := 176) (pc' := 185) rfl (hb hby at_176) rfl ((if0 _ _).trans (flt (by decide : ¬ ((0 : Int32) < (0 : Int32)))).2.2.2) (by decide) (by decide) ?_
        show Steps p.tables e below (T59.setTop (mkF m 185 #[.val (.int p0), .val (.int p1), .val (.int p2), .val (.int p3), .val (.int ((p0 &&& (2147483647 : Int32)) % (9 : Int32))), .val (.ref o), .val (.int tg), .val (.int (0 : Int32)), .val (.ref b59), .unset, .unset] [])) _
        refine XS.iload X59.here hx rfl (hb hby at_185) rfl ?_
        show Steps p.tables e below (T59.setTop (mkF m 187 #[.val (.int p0), .val (.int p1), .val (.int p2), .val (.int p3), .val (.int ((p0 &&& (2147483647 : Int32)) % (9 : Int32))), .val (.ref o), .val (.int tg), .val (.int (0 : Int32)), .val (.ref b59), .unset, .unset] [(.int (0 : Int32))])) _
        refine XS.iconst X59.here hx rfl (hb hby at_187) ?_
        show Steps p.tables e below (T59.setTop (mkF m 188 #[.val (.int p0), .val (.int p1), .val (.int p2), .val (.int p3), .val (.int ((p0 &&& (2147483647 : Int32)) % (9 : Int32))), .val (.ref o), .val (.int tg), .val (.int (0 : Int32)), .val (.ref b59), .unset, .unset] [(.int (1 : Int32)), (.int (0 : Int32))])) _
        refine XS.icmpYes X59.here hx rfl (pc0 := 188) (pc' := 197) rfl (hb hby at_188) rfl (flt (by decide : ¬ ((1 : Int32) < (0 : Int32)))).2.2.2 (by decide) (by decide) ?_
        show Steps p.tables e below (T59.setTop (mkF m 197 #[.val (.int p0), .val (.int p1), .val (.int p2), .val (.int p3), .val (.int ((p0 &&& (2147483647 : Int32)) % (9 : Int32))), .val (.ref o), .val (.int tg), .val (.int (0 : Int32)), .val (.ref b59), .unset, .unset] [])) _
        refine XS.iload X59.here hx rfl (hb hby at_197) rfl ?_
        show Steps p.tables e below (T59.setTop (mkF m 199 #[.val (.int p0), .val (.int p1), .val (.int p2), .val (.int p3), .val (.int ((p0 &&& (2147483647 : Int32)) % (9 : Int32))), .val (.ref o), .val (.int tg), .val (.int (0 : Int32)), .val (.ref b59), .unset, .unset] [(.int (0 : Int32))])) _
        refine XS.iconst X59.here hx rfl (hb hby at_199) ?_
        show Steps p.tables e below (T59.setTop (mkF m 200 #[.val (.int p0), .val (.int p1), .val (.int p2), .val (.int p3), .val (.int ((p0 &&& (2147483647 : Int32)) % (9 : Int32))), .val (.ref o), .val (.int tg), .val (.int (0 : Int32)), .val (.ref b59), .unset, .unset] [(.int (2 : Int32)), (.int (0 : Int32))])) _
        refine XS.icmpYes X59.here hx rfl (pc0 := 200) (pc' := 212) rfl (hb hby at_200) rfl (flt (by decide : ¬ ((2 : Int32) < (0 : Int32)))).2.2.2 (by decide) (by decide) ?_
        show Steps p.tables e below (T59.setTop (mkF m 212 #[.val (.int p0), .val (.int p1), .val (.int p2), .val (.int p3), .val (.int ((p0 &&& (2147483647 : Int32)) % (9 : Int32))), .val (.ref o), .val (.int tg), .val (.int (0 : Int32)), .val (.ref b59), .unset, .unset] [])) _
        refine XS.iload X59.here hx rfl (hb hby at_212) rfl ?_
        show Steps p.tables e below (T59.setTop (mkF m 214 #[.val (.int p0), .val (.int p1), .val (.int p2), .val (.int p3), .val (.int ((p0 &&& (2147483647 : Int32)) % (9 : Int32))), .val (.ref o), .val (.int tg), .val (.int (0 : Int32)), .val (.ref b59), .unset, .unset] [(.int (0 : Int32))])) _
        refine XS.ifYes X59.here hx rfl (pc0 := 214) (pc' := 231) rfl (hb hby at_214) rfl ((if0 _ _).trans (flt (by decide : ¬ ((0 : Int32) < (0 : Int32)))).2.2.2) (by decide) (by decide) ?_
        show Steps p.tables e below (T59.setTop (mkF m 231 #[.val (.int p0), .val (.int p1), .val (.int p2), .val (.int p3), .val (.int ((p0 &&& (2147483647 : Int32)) % (9 : Int32))), .val (.ref o), .val (.int tg), .val (.int (0 : Int32)), .val (.ref b59), .unset, .unset] [])) _
        refine XS.iconst X59.here hx rfl (hb hby at_231) ?_
        show Steps p.tables e below (T59.setTop (mkF m 232 #[.val (.int p0), .val (.int p1), .val (.int p2), .val (.int p3), .val (.int ((p0 &&& (2147483647 : Int32)) % (9 : Int32))), .val (.ref o), .val (.int tg), .val (.int (0 : Int32)), .val (.ref b59), .unset, .unset] [(.int (0 : Int32))])) _
        refine XS.istore X59.here hx rfl (hb hby at_232) rfl (l' := #[.val (.int p0), .val (.int p1), .val (.int p2), .val (.int p3), .val (.int ((p0 &&& (2147483647 : Int32)) % (9 : Int32))), .val (.ref o), .val (.int tg), .val (.int (0 : Int32)), .val (.ref b59), .val (.int (0 : Int32)), .unset]) rfl ?_
        show Steps p.tables e below (T59.setTop (mkF m 234 #[.val (.int p0), .val (.int p1), .val (.int p2), .val (.int p3), .val (.int ((p0 &&& (2147483647 : Int32)) % (9 : Int32))), .val (.ref o), .val (.int tg), .val (.int (0 : Int32)), .val (.ref b59), .val (.int (0 : Int32)), .unset] [])) _
        refine XS.aload X59.here hx rfl (hb hby at_234) rfl rfl ?_
        show Steps p.tables e below (T59.setTop (mkF m 236 #[.val (.int p0), .val (.int p1), .val (.int p2), .val (.int p3), .val (.int ((p0 &&& (2147483647 : Int32)) % (9 : Int32))), .val (.ref o), .val (.int tg), .val (.int (0 : Int32)), .val (.ref b59), .val (.int (0 : Int32)), .unset] [(.ref o)])) _
        refine st61.trans ?_
        show Steps p.tables e below (T61.setTop (mkF m 239 #[.val (.int p0), .val (.int p1), .val (.int p2), .val (.int p3), .val (.int ((p0 &&& (2147483647 : Int32)) % (9 : Int32))), .val (.ref o), .val (.int tg), .val (.int (0 : Int32)), .val (.ref b59), .val (.int (0 : Int32)), .unset] [(.ref b_61)])) _
        refine XS.astore X61.here hx rfl (hb hby at_239) rfl rfl (l' := #[.val (.int p0), .val (.int p1), .val (.int p2), .val (.int p3), .val (.int ((p0 &&& (2147483647 : Int32)) % (9 : Int32))), .val (.ref o), .val (.int tg), .val (.int (0 : Int32)), .val (.ref b59), .val (.int (0 : Int32)), .val (.ref b_61)]) rfl ?_
        show Steps p.tables e below (T61.setTop (mkF m 241 #[.val (.int p0), .val (.int p1), .val (.int p2), .val (.int p3), .val (.int ((p0 &&& (2147483647 : Int32)) % (9 : Int32))), .val (.ref o), .val (.int tg), .val (.int (0 : Int32)), .val (.ref b59), .val (.int (0 : Int32)), .val (.ref b_61)] [])) _
        refine XS.aload X61.here hx rfl (hb hby at_241) rfl rfl ?_
        show Steps p.tables e below (T61.setTop (mkF m 243 #[.val (.int p0), .val (.int p1), .val (.int p2), .val (.int p3), .val (.int ((p0 &&& (2147483647 : Int32)) % (9 : Int32))), .val (.ref o), .val (.int tg), .val (.int (0 : Int32)), .val (.ref b59), .val (.int (0 : Int32)), .val (.ref b_61)] [(.ref o)])) _
        refine XS.aload X61.here hx rfl (hb hby at_243) rfl rfl ?_
        show Steps p.tables e below (T61.setTop (mkF m 245 #[.val (.int p0), .val (.int p1), .val (.int p2), .val (.int p3), .val (.int ((p0 &&& (2147483647 : Int32)) % (9 : Int32))), .val (.ref o), .val (.int tg), .val (.int (0 : Int32)), .val (.ref b59), .val (.int (0 : Int32)), .val (.ref b_61)] [(.ref b59), (.ref o)])) _
        refine st74.trans ?_
        show Steps p.tables e below (T74.setTop (mkF m 248 #[.val (.int p0), .val (.int p1), .val (.int p2), .val (.int p3), .val (.int ((p0 &&& (2147483647 : Int32)) % (9 : Int32))), .val (.ref o), .val (.int tg), .val (.int (0 : Int32)), .val (.ref b59), .val (.int (0 : Int32)), .val (.ref b_61)] [(.int (own_f_rm2_0 tg))])) _
        refine XS.iload X74.here hx rfl (hb hby at_248) rfl ?_
        show Steps p.tables e below (T74.setTop (mkF m 250 #[.val (.int p0), .val (.int p1), .val (.int p2), .val (.int p3), .val (.int ((p0 &&& (2147483647 : Int32)) % (9 : Int32))), .val (.ref o), .val (.int tg), .val (.int (0 : Int32)), .val (.ref b59), .val (.int (0 : Int32)), .val (.ref b_61)] [(.int (0 : Int32)), (.int (own_f_rm2_0 tg))])) _
        refine XS.icmpNo X74.here hx rfl (hb hby at_250) rfl (teq hc250_76).2 ?_
        show Steps p.tables e below (T74.setTop (mkF m 253 #[.val (.int p0), .val (.int p1), .val (.int p2), .val (.int p3), .val (.int ((p0 &&& (2147483647 : Int32)) % (9 : Int32))), .val (.ref o), .val (.int tg), .val (.int (0 : Int32)), .val (.ref b59), .val (.int (0 : Int32)), .val (.ref b_61)] [])) _
        refine XS.aload X74.here hx rfl (hb hby at_253) rfl rfl ?_
        show Steps p.tables e below (T74.setTop (mkF m 255 #[.val (.int p0), .val (.int p1), .val (.int p2), .val (.int p3), .val (.int ((p0 &&& (2147483647 : Int32)) % (9 : Int32))), .val (.ref o), .val (.int tg), .val (.int (0 : Int32)), .val (.ref b59), .val (.int (0 : Int32)), .val (.ref b_61)] [(.ref o)])) _
        refine XS.aload X74.here hx rfl (hb hby at_255) rfl rfl ?_
        show Steps p.tables e below (T74.setTop (mkF m 257 #[.val (.int p0), .val (.int p1), .val (.int p2), .val (.int p3), .val (.int ((p0 &&& (2147483647 : Int32)) % (9 : Int32))), .val (.ref o), .val (.int tg), .val (.int (0 : Int32)), .val (.ref b59), .val (.int (0 : Int32)), .val (.ref b_61)] [(.ref b_61), (.ref o)])) _
        refine st77.trans ?_
        show Steps p.tables e below (T77.setTop (mkF m 260 #[.val (.int p0), .val (.int p1), .val (.int p2), .val (.int p3), .val (.int ((p0 &&& (2147483647 : Int32)) % (9 : Int32))), .val (.ref o), .val (.int tg), .val (.int (0 : Int32)), .val (.ref b59), .val (.int (0 : Int32)), .val (.ref b_61)] [(.int (own_f_rm2_1 tg (nar .byte tg)))])) _
        refine XS.ifNo X77.here hx rfl (hb hby at_260) rfl ((if0 _ _).trans (feq hc260_78).1) ?_
        show Steps p.tables e below (T77.setTop (mkF m 263 #[.val (.int p0), .val (.int p1), .val (.int p2), .val (.int p3), .val (.int ((p0 &&& (2147483647 : Int32)) % (9 : Int32))), .val (.ref o), .val (.int tg), .val (.int (0 : Int32)), .val (.ref b59), .val (.int (0 : Int32)), .val (.ref b_61)] [])) _
        refine XS.iconst X77.here hx rfl (hb hby at_263) ?_
        show Steps p.tables e below (T77.setTop (mkF m 264 #[.val (.int p0), .val (.int p1), .val (.int p2), .val (.int p3), .val (.int ((p0 &&& (2147483647 : Int32)) % (9 : Int32))), .val (.ref o), .val (.int tg), .val (.int (0 : Int32)), .val (.ref b59), .val (.int (0 : Int32)), .val (.ref b_61)] [(.int (1 : Int32))])) _
        refine XS.goto X77.here hx rfl (pc0 := 264) (pc' := 268) rfl (hb hby at_264) (by decide) (by decide) ?_
        show Steps p.tables e below (T77.setTop (mkF m 268 #[.val (.int p0), .val (.int p1), .val (.int p2), .val (.int p3), .val (.int ((p0 &&& (2147483647 : Int32)) % (9 : Int32))), .val (.ref o), .val (.int tg), .val (.int (0 : Int32)), .val (.ref b59), .val (.int (0 : Int32)), .val (.ref b_61)] [(.int (1 : Int32))])) _
        exact retN X77 hx (t := .boolean) Bd.returns (by simp) (hb hby at_268) hr
      · show Q0 Z p0 p1 p2 p3 o0 o1 o2 o3 o4 o5 o6 o7 o8 h0 n0 _ T77.heap _
        rw [e77]
        exact ⟨rfl, N77⟩
    · obtain ⟨T79, h79, k79, X79, e79, E79, A79, st79⟩ := newP XJ hx hZ (hw _ (List.mem_of_getElem? (i := 4) rfl)) eJ (g := (mkF m 170 #[.val (.int p0), .val (.int p1), .val (.int p2), .val (.int p3), .val (.int ((p0 &&& (2147483647 : Int32)) % (9 : Int32))), .val (.ref o), .val (.int tg), .val (.int (1 : Int32)), .unset, .unset, .unset] [(.int (1 : Int32))])) rfl (hb hby at_170) rfl (by decide) (cap := 1) (by decide) (by decide) (by decide) (by decide)
      obtain ⟨b79, g79⟩ : ∃ z, z = h0.size := ⟨_, rfl⟩
      rw [← g79] at A79 st79
      have ne_o0_b79 : o0 ≠ b79 := Nat.ne_of_lt (Nat.lt_of_lt_of_le E_o0.lt (Nat.le_of_eq g79.symm))
      have ne_o1_b79 : o1 ≠ b79 := Nat.ne_of_lt (Nat.lt_of_lt_of_le E_o1.lt (Nat.le_of_eq g79.symm))
      have ne_o2_b79 : o2 ≠ b79 := Nat.ne_of_lt (Nat.lt_of_lt_of_le E_o2.lt (Nat.le_of_eq g79.symm))
      have ne_o3_b79 : o3 ≠ b79 := Nat.ne_of_lt (Nat.lt_of_lt_of_le E_o3.lt (Nat.le_of_eq g79.symm))
      have ne_o4_b79 : o4 ≠ b79 := Nat.ne_of_lt (Nat.lt_of_lt_of_le E_o4.lt (Nat.le_of_eq g79.symm))
      have ne_o5_b79 : o5 ≠ b79 := Nat.ne_of_lt (Nat.lt_of_lt_of_le E_o5.lt (Nat.le_of_eq g79.symm))
      have ne_o6_b79 : o6 ≠ b79 := Nat.ne_of_lt (Nat.lt_of_lt_of_le E_o6.lt (Nat.le_of_eq g79.symm))
      have ne_o7_b79 : o7 ≠ b79 := Nat.ne_of_lt (Nat.lt_of_lt_of_le E_o7.lt (Nat.le_of_eq g79.symm))
      have ne_o8_b79 : o8 ≠ b79 := Nat.ne_of_lt (Nat.lt_of_lt_of_le E_o8.lt (Nat.le_of_eq g79.symm))
      have ne_o_b79 : o ≠ b79 := Nat.ne_of_lt (Nat.lt_of_lt_of_le E_o.lt (Nat.le_of_eq g79.symm))
      have gg_b79 : n0 ≤ b79 := Nat.le_trans (Nat.le_trans Z0 K0.1) (Nat.le_of_eq g79.symm)
      have sz_b79 : h0.size ≤ b79 := Nat.le_trans K0.1 (Nat.le_of_eq g79.symm)
      have K79 := K0.ext E79
      have V79 : Arv Z h79 b79 k79 .byte (1 : Int32) [(.int (0 : Int32))] (.int (0 : Int32)) := (Arv.new A79 (by decide)).pad (pad_rep [] (.int (0 : Int32)) 1)
      obtain ⟨cl80, Ar80, q80, S80, M80, H80, G80⟩ := id V79
      have hin80 : ¬ ((0 : Int32) < 0 ∨ cl80.slots.size ≤ ((0 : Int32)).toNatClampNeg) := inb_of S80 ⟨by decide, by decide⟩
      obtain ⟨T81, h81, X81, e81, W81, st81⟩ := stB X79 hx hZ e79 Ar80 (j := (0 : Int32)) hin80 (g := (mkF m 184 #[.val (.int p0), .val (.int p1), .val (.int p2), .val (.int p3), .val (.int ((p0 &&& (2147483647 : Int32)) % (9 : Int32))), .val (.ref o), .val (.int tg), .val (.int (1 : Int32)), .val (.ref b79), .unset, .unset] [(.int (p2.toInt8.toInt32)), (.int (0 : Int32)), (.ref b79)])) rfl rfl (hb hby at_184)
      have V81 : Arv Z h81 b79 k79 .byte (1 : Int32) [(.int (nar .byte (p2.toInt8.toInt32)))] (.int (0 : Int32)) := Arv.set Ar80 q80 S80 M80 H80 G80 (fits_nar_byte _) W81 0 rfl (Nat.le_of_ble_eq_true rfl)
      have K81 := K79.wr W81 (Or.inr sz_b79)
      have N81 := Fr.snoc X81 N0 gg_b79
      have pre82 : ∀ t, Steps p.tables e below (T81.setTop (mkF m 224 #[.val (.int p0), .val (.int p1), .val (.int p2), .val (.int p3), .val (.int ((p0 &&& (2147483647 : Int32)) % (9 : Int32))), .val (.ref o), .val (.int tg), .val (.int (1 : Int32)), .val (.ref b79), .unset, .unset] [(.int tg), (.int (p2 &&& (255 : Int32)))])) t → Steps p.tables e below (s₁.setTop (entryFrame m #[(.int p0), (.int p1), (.int p2), (.int p3)] maxLocals)) t := fun t k => by
        refine pre58 _ ?_
        show Steps p.tables e below (TJ.setTop (mkF m 168 #[.val (.int p0), .val (.int p1), .val (.int p2), .val (.int p3), .val (.int ((p0 &&& (2147483647 : Int32)) % (9 : Int32))), .val (.ref o), .val (.int tg), .val (.int (p1 &&& (3 : Int32))), .unset, .unset, .unset] [])) _
        rw [hk]
        show Steps p.tables e below (TJ.setTop (mkF m 168 #[.val (.int p0), .val (.int p1), .val (.int p2), .val (.int p3), .val (.int ((p0 &&& (2147483647 : Int32)) % (9 : Int32))), .val (.ref o), .val (.int tg), .val (.int (1 : Int32)), .unset, .unset, .unset] [])) _
        refine XS.iload XJ.here hx rfl (hb hby at_168) rfl ?_
        show Steps p.tables e below (TJ.setTop (mkF m 170 #[.val (.int p0), .val (.int p1), .val (.int p2), .val (.int p3), .val (.int ((p0 &&& (2147483647 : Int32)) % (9 : Int32))), .val (.ref o), .val (.int tg), .val (.int (1 : Int32)), .unset, .unset, .unset] [(.int (1 : Int32))])) _
        refine st79 _ ?_
        show Steps p.tables e below (T79.setTop (mkF m 172 #[.val (.int p0), .val (.int p1), .val (.int p2), .val (.int p3), .val (.int ((p0 &&& (2147483647 : Int32)) % (9 : Int32))), .val (.ref o), .val (.int tg), .val (.int (1 : Int32)), .unset, .unset, .unset] [(.ref b79)])) _
        refine XS.astore X79.here hx rfl (hb hby at_172) rfl rfl (l' := #[.val (.int p0), .val (.int p1), .val (.int p2), .val (.int p3), .val (.int ((p0 &&& (2147483647 : Int32)) % (9 : Int32))), .val (.ref o), .val (.int tg), .val (.int (1 : Int32)), .val (.ref b79), .unset, .unset]) rfl ?_
        show Steps p.tables e below (T79.setTop (mkF m 174 #[.val (.int p0), .val (.int p1), .val (.int p2), .val (.int p3), .val (.int ((p0 &&& (2147483647 : Int32)) % (9 : Int32))), .val (.ref o), .val (.int tg), .val (.int (1 : Int32)), .val (.ref b79), .unset, .unset] [])) _
        refine XS.iload X79.here hx rfl (hb hby at_174) rfl ?_
        show Steps p.tables e below (T79.setTop (mkF m 176 #[.val (.int p0), .val (.int p1), .val (.int p2), .val (.int p3), .val (.int ((p0 &&& (2147483647 : Int32)) % (9 : Int32))), .val (.ref o), .val (.int tg), .val (.int (1 : Int32)), .val (.ref b79), .unset, .unset] [(.int (1 : Int32))])) _
        refine XS.ifNo X79.here hx rfl (hb hby at_176) rfl ((if0 _ _).trans (tlt (by decide : ((0 : Int32) < (1 : Int32)))).2.2.2) ?_
        show Steps p.tables e below (T79.setTop (mkF m 179 #[.val (.int p0), .val (.int p1), .val (.int p2), .val (.int p3), .val (.int ((p0 &&& (2147483647 : Int32)) % (9 : Int32))), .val (.ref o), .val (.int tg), .val (.int (1 : Int32)), .val (.ref b79), .unset, .unset] [])) _
        refine XS.aload X79.here hx rfl (hb hby at_179) rfl rfl ?_
        show Steps p.tables e below (T79.setTop (mkF m 181 #[.val (.int p0), .val (.int p1), .val (.int p2), .val (.int p3), .val (.int ((p0 &&& (2147483647 : Int32)) % (9 : Int32))), .val (.ref o), .val (.int tg), .val (.int (1 : Int32)), .val (.ref b79), .unset, .unset] [(.ref b79)])) _
        refine XS.iconst X79.here hx rfl (hb hby at_181) ?_
        show Steps p.tables e below (T79.setTop (mkF m 182 #[.val (.int p0), .val (.int p1), .val (.int p2), .val (.int p3), .val (.int ((p0 &&& (2147483647 : Int32)) % (9 : Int32))), .val (.ref o), .val (.int tg), .val (.int (1 : Int32)), .val (.ref b79), .unset, .unset] [(.int (0 : Int32)), (.ref b79)])) _
        refine XS.iloadN X79.here hx rfl (hb hby at_182) rfl ?_
        show Steps p.tables e below (T79.setTop (mkF m 183 #[.val (.int p0), .val (.int p1), .val (.int p2), .val (.int p3), .val (.int ((p0 &&& (2147483647 : Int32)) % (9 : Int32))), .val (.ref o), .val (.int tg), .val (.int (1 : Int32)), .val (.ref b79), .unset, .unset] [(.int p2), (.int (0 : Int32)), (.ref b79)])) _
        refine XS.i2b X79.here hx rfl (hb hby at_183) rfl ?_
        show Steps p.tables e below (T79.setTop (mkF m 184 #[.val (.int p0), .val (.int p1), .val (.int p2), .val (.int p3), .val (.int ((p0 &&& (2147483647 : Int32)) % (9 : Int32))), .val (.ref o), .val (.int tg), .val (.int (1 : Int32)), .val (.ref b79), .unset, .unset] [(.int (p2.toInt8.toInt32)), (.int (0 : Int32)), (.ref b79)])) _
        refine st81 _ ?_
        show Steps p.tables e below (T81.setTop (mkF m 185 #[.val (.int p0), .val (.int p1), .val (.int p2), .val (.int p3), .val (.int ((p0 &&& (2147483647 : Int32)) % (9 : Int32))), .val (.ref o), .val (.int tg), .val (.int (1 : Int32)), .val (.ref b79), .unset, .unset] [])) _
        refine XS.iload X81.here hx rfl (hb hby at_185) rfl ?_
        show Steps p.tables e below (T81.setTop (mkF m 187 #[.val (.int p0), .val (.int p1), .val (.int p2), .val (.int p3), .val (.int ((p0 &&& (2147483647 : Int32)) % (9 : Int32))), .val (.ref o), .val (.int tg), .val (.int (1 : Int32)), .val (.ref b79), .unset, .unset] [(.int (1 : Int32))])) _
        refine XS.iconst X81.here hx rfl (hb hby at_187) ?_
        show Steps p.tables e below (T81.setTop (mkF m 188 #[.val (.int p0), .val (.int p1), .val (.int p2), .val (.int p3), .val (.int ((p0 &&& (2147483647 : Int32)) % (9 : Int32))), .val (.ref o), .val (.int tg), .val (.int (1 : Int32)), .val (.ref b79), .unset, .unset] [(.int (1 : Int32)), (.int (1 : Int32))])) _
        refine XS.icmpYes X81.here hx rfl (pc0 := 188) (pc' := 197) rfl (hb hby at_188) rfl (flt (by decide : ¬ ((1 : Int32) < (1 : Int32)))).2.2.2 (by decide) (by decide) ?_
        show Steps p.tables e below (T81.setTop (mkF m 197 #[.val (.int p0), .val (.int p1), .val (.int p2), .val (.int p3), .val (.int ((p0 &&& (2147483647 : Int32)) % (9 : Int32))), .val (.ref o), .val (.int tg), .val (.int (1 : Int32)), .val (.ref b79), .unset, .unset] [])) _
        refine XS.iload X81.here hx rfl (hb hby at_197) rfl ?_
        show Steps p.tables e below (T81.setTop (mkF m 199 #[.val (.int p0), .val (.int p1), .val (.int p2), .val (.int p3), .val (.int ((p0 &&& (2147483647 : Int32)) % (9 : Int32))), .val (.ref o), .val (.int tg), .val (.int (1 : Int32)), .val (.ref b79), .unset, .unset] [(.int (1 : Int32))])) _
        refine XS.iconst X81.here hx rfl (hb hby at_199) ?_
        show Steps p.tables e below (T81.setTop (mkF m 200 #[.val (.int p0), .val (.int p1), .val (.int p2), .val (.int p3), .val (.int ((p0 &&& (2147483647 : Int32)) % (9 : Int32))), .val (.ref o), .val (.int tg), .val (.int (1 : Int32)), .val (.ref b79), .unset, .unset] [(.int (2 : Int32)), (.int (1 : Int32))])) _
        refine XS.icmpYes X81.here hx rfl (pc0 := 200) (pc' := 212) rfl (hb hby at_200) rfl (flt (by decide : ¬ ((2 : Int32) < (1 : Int32)))).2.2.2 (by decide) (by decide) ?_
        show Steps p.tables e below (T81.setTop (mkF m 212 #[.val (.int p0), .val (.int p1), .val (.int p2), .val (.int p3), .val (.int ((p0 &&& (2147483647 : Int32)) % (9 : Int32))), .val (.ref o), .val (.int tg), .val (.int (1 : Int32)), .val (.ref b79), .unset, .unset] [])) _
        refine XS.iload X81.here hx rfl (hb hby at_212) rfl ?_
        show Steps p.tables e below (T81.setTop (mkF m 214 #[.val (.int p0), .val (.int p1), .val (.int p2), .val (.int p3), .val (.int ((p0 &&& (2147483647 : Int32)) % (9 : Int32))), .val (.ref o), .val (.int tg), .val (.int (1 : Int32)), .val (.ref b79), .unset, .unset] [(.int (1 : Int32))])) _
        refine XS.ifNo X81.here hx rfl (hb hby at_214) rfl ((if0 _ _).trans (tlt (by decide : ((0 : Int32) < (1 : Int32)))).2.2.2) ?_
        show Steps p.tables e below (T81.setTop (mkF m 217 #[.val (.int p0), .val (.int p1), .val (.int p2), .val (.int p3), .val (.int ((p0 &&& (2147483647 : Int32)) % (9 : Int32))), .val (.ref o), .val (.int tg), .val (.int (1 : Int32)), .val (.ref b79), .unset, .unset] [])) _
        refine XS.iloadN X81.here hx rfl (hb hby at_217) rfl ?_
        show Steps p.tables e below (T81.setTop (mkF m 218 #[.val (.int p0), .val (.int p1), .val (.int p2), .val (.int p3), .val (.int ((p0 &&& (2147483647 : Int32)) % (9 : Int32))), .val (.ref o), .val (.int tg), .val (.int (1 : Int32)), .val (.ref b79), .unset, .unset] [(.int p2)])) _
        refine XS.sipush X81.here hx rfl (hb hby at_218) ?_
        show Steps p.tables e below (T81.setTop (mkF m 221 #[.val (.int p0), .val (.int p1), .val (.int p2), .val (.int p3), .val (.int ((p0 &&& (2147483647 : Int32)) % (9 : Int32))), .val (.ref o), .val (.int tg), .val (.int (1 : Int32)), .val (.ref b79), .unset, .unset] [(.int (255 : Int32)), (.int p2)])) _
        refine XS.iand X81.here hx rfl (hb hby at_221) rfl ?_
        show Steps p.tables e below (T81.setTop (mkF m 222 #[.val (.int p0), .val (.int p1), .val (.int p2), .val (.int p3), .val (.int ((p0 &&& (2147483647 : Int32)) % (9 : Int32))), .val (.ref o), .val (.int tg), .val (.int (1 : Int32)), .val (.ref b79), .unset, .unset] [(.int (p2 &&& (255 : Int32)))])) _
        refine XS.iload X81.here hx rfl (hb hby at_222) rfl ?_
        exact k
      by_cases hc224 : (p2 &&& (255 : Int32)) = tg
      · have Q83 := ((F_o_tag.ext E79).other W81 (Or.inl ne_o_b79))
        have Q85 := ((E_o.ext E79).wr W81)
        obtain ⟨cq84, kq84, q84a, q84b, q84c⟩ := isOf hZ e81 Q85
        obtain ⟨_, _, ⟨T84, L84, k84, n84⟩, -, X84, ⟨Lc84, hQ84, l84, y84, z84⟩, st84⟩ := X81.virtualBack hx (y := (⟨"com/example/counterpoise/counterpoise/store/Records$Kind", "prefix", "()[B"⟩ : MethodName)) (z := (⟨"com/example/counterpoise/counterpoise/store/Records$Kind", "prefix", "()[B"⟩ : MethodName)) hown (mvT hZ (hw _ (List.mem_of_getElem? (i := 5) rfl))) (mvT hZ (hw _ (List.mem_of_getElem? (i := 6) rfl))) (notFace_of_selects (args := #[]) (mvT hZ (hw _ (List.mem_of_getElem? (i := 8) rfl)))) (mvT hZ (hw _ (List.mem_of_getElem? (i := 8) rfl))) (mvT hZ (hw _ (List.mem_of_getElem? (i := 7) rfl))) (by decide) (backOf (W := 0) (rm1 l Z a0 hw [] o tg h81 n0 (Nat.le_trans Z0 K81.1) Q83) hZ (hw _ (List.mem_of_getElem? (i := 9) rfl)) (hw _ (List.mem_of_getElem? (i := 2) rfl)) (by decide) (by decide)) q84a q84c (g := (mkF m 236 #[.val (.int p0), .val (.int p1), .val (.int p2), .val (.int p3), .val (.int ((p0 &&& (2147483647 : Int32)) % (9 : Int32))), .val (.ref o), .val (.int tg), .val (.int (1 : Int32)), .val (.ref b79), .val (.int (1 : Int32)), .unset] [(.ref o)])) rfl (by rw [hml]; rfl) (Steps.refl _) (argsL := []) (rest := []) (lenOf own_pd0 rfl) rfl (by show 2 * 0 + _ ≤ _; exact Nat.le_of_eq rfl) (hb hby at_236) (fun _ _ => ⟨rfl, e81, (by decide : 1 + 1 ≤ _), (by decide : 1 + 1 ≤ _)⟩)
        dsimp only [Pt.U, Pt.locs, Pt.cells, Pt.slots] at X84 l84 y84 z84 st84 hQ84
        subst l84 y84 z84
        obtain ⟨b_84, k_84, rfl, N84q, i84_4, i84_5, i84_6⟩ := hQ84
        have N84 := Fr.app N81 N84q
        have Q86 := ((E_o0.ext E79).wr W81)
        have ne_o0_b_84 : o0 ≠ b_84 := Nat.ne_of_lt (Nat.lt_of_lt_of_le Q86.lt i84_5)
        have Q87 := ((E_o1.ext E79).wr W81)
        have ne_o1_b_84 : o1 ≠ b_84 := Nat.ne_of_lt (Nat.lt_of_lt_of_le Q87.lt i84_5)
        have Q88 := ((E_o2.ext E79).wr W81)
        have ne_o2_b_84 : o2 ≠ b_84 := Nat.ne_of_lt (Nat.lt_of_lt_of_le Q88.lt i84_5)
        have Q89 := ((E_o3.ext E79).wr W81)
        have ne_o3_b_84 : o3 ≠ b_84 := Nat.ne_of_lt (Nat.lt_of_lt_of_le Q89.lt i84_5)
        have Q90 := ((E_o4.ext E79).wr W81)
        have ne_o4_b_84 : o4 ≠ b_84 := Nat.ne_of_lt (Nat.lt_of_lt_of_le Q90.lt i84_5)
        have Q91 := ((E_o5.ext E79).wr W81)
        have ne_o5_b_84 : o5 ≠ b_84 := Nat.ne_of_lt (Nat.lt_of_lt_of_le Q91.lt i84_5)
        have Q92 := ((E_o6.ext E79).wr W81)
        have ne_o6_b_84 : o6 ≠ b_84 := Nat.ne_of_lt (Nat.lt_of_lt_of_le Q92.lt i84_5)
        have Q93 := ((E_o7.ext E79).wr W81)
        have ne_o7_b_84 : o7 ≠ b_84 := Nat.ne_of_lt (Nat.lt_of_lt_of_le Q93.lt i84_5)
        have Q94 := ((E_o8.ext E79).wr W81)
        have ne_o8_b_84 : o8 ≠ b_84 := Nat.ne_of_lt (Nat.lt_of_lt_of_le Q94.lt i84_5)
        have ne_o_b_84 : o ≠ b_84 := Nat.ne_of_lt (Nat.lt_of_lt_of_le Q85.lt i84_5)
        have ne_b79_b_84 : b79 ≠ b_84 := Nat.ne_of_lt (Nat.lt_of_lt_of_le V81.lt i84_5)
        have gg_b_84 : n0 ≤ b_84 := Nat.le_trans (Nat.le_trans Z0 K81.1) i84_5
        have sz_b_84 : h0.size ≤ b_84 := Nat.le_trans K81.1 i84_5
        have K84 := K81.trans i84_4 all0
        have Q95 := (Q83.keep i84_4 nin0)
        have Q96 := (V81.keep i84_4 nin0)
        have Q98 := (Q85.keep i84_4)
        obtain ⟨cq97, kq97, q97a, q97b, q97c⟩ := isOf hZ rfl Q98
        obtain ⟨_, _, ⟨T97, L97, k97, n97⟩, -, X97, ⟨Lc97, hQ97, l97, y97, z97⟩, st97⟩ := X84.virtualBack hx (y := (⟨"com/example/counterpoise/counterpoise/store/Records$Kind", "holds", "([B)Z"⟩ : MethodName)) (z := (⟨"com/example/counterpoise/counterpoise/store/Records$Kind", "holds", "([B)Z"⟩ : MethodName)) hown (mvT hZ (hw _ (List.mem_of_getElem? (i := 12) rfl))) (mvT hZ (hw _ (List.mem_of_getElem? (i := 13) rfl))) (notFace_of_selects (args := #[]) (mvT hZ (hw _ (List.mem_of_getElem? (i := 15) rfl)))) (mvT hZ (hw _ (List.mem_of_getElem? (i := 15) rfl))) (mvT hZ (hw _ (List.mem_of_getElem? (i := 14) rfl))) (by decide) (backOf (W := 0) (rm2_1 l Z a0 hw [] o b79 k79 tg (nar .byte (p2.toInt8.toInt32)) T84.heap n0 (Nat.le_trans Z0 K84.1) Q95 Q96) hZ (hw _ (List.mem_of_getElem? (i := 16) rfl)) (hw _ (List.mem_of_getElem? (i := 2) rfl)) (by decide) (by decide)) q97a q97c (g := (mkF m 245 #[.val (.int p0), .val (.int p1), .val (.int p2), .val (.int p3), .val (.int ((p0 &&& (2147483647 : Int32)) % (9 : Int32))), .val (.ref o), .val (.int tg), .val (.int (1 : Int32)), .val (.ref b79), .val (.int (1 : Int32)), .val (.ref b_84)] [(.ref b79), (.ref o)])) rfl (by rw [hml]; rfl) (Steps.refl _) (argsL := [(.ref b79)]) (rest := []) (lenOf own_pd1 rfl) rfl (by show 2 * 0 + _ ≤ _; exact Nat.le_of_eq rfl) (hb hby at_245) (fun _ _ => ⟨rfl, rfl, (by decide : 2 + 0 ≤ _), (by decide : 2 + 0 ≤ _)⟩)
        dsimp only [Pt.U, Pt.locs, Pt.cells, Pt.slots] at X97 l97 y97 z97 st97 hQ97
        subst l97 y97 z97
        obtain ⟨rfl, N97q, e97⟩ := hQ97
        have N97 := Fr.app N84 N97q
        have hc250_99 : (own_f_rm2_1 tg (nar .byte (p2.toInt8.toInt32))) = (1 : Int32) := by unfold own_f_rm2_1; rw [if_pos ((own_bt p2 tg htg).mpr hc224)]
        obtain ⟨cq100, kq100, q100a, q100b, q100c⟩ := isOf hZ e97 Q98
        obtain ⟨_, _, ⟨T100, L100, k100, n100⟩, -, X100, ⟨Lc100, hQ100, l100, y100, z100⟩, st100⟩ := X97.virtualBack hx (y := (⟨"com/example/counterpoise/counterpoise/store/Records$Kind", "holds", "([B)Z"⟩ : MethodName)) (z := (⟨"com/example/counterpoise/counterpoise/store/Records$Kind", "holds", "([B)Z"⟩ : MethodName)) hown (mvT hZ (hw _ (List.mem_of_getElem? (i := 12) rfl))) (mvT hZ (hw _ (List.mem_of_getElem? (i := 13) rfl))) (notFace_of_selects (args := #[]) (mvT hZ (hw _ (List.mem_of_getElem? (i := 15) rfl)))) (mvT hZ (hw _ (List.mem_of_getElem? (i := 15) rfl))) (mvT hZ (hw _ (List.mem_of_getElem? (i := 14) rfl))) (by decide) (backOf (W := 0) (rm2_1 l Z a0 hw [] o b_84 k_84 tg (nar .byte tg) T84.heap n0 (Nat.le_trans Z0 K84.1) Q95 i84_6) hZ (hw _ (List.mem_of_getElem? (i := 16) rfl)) (hw _ (List.mem_of_getElem? (i := 2) rfl)) (by decide) (by decide)) q100a q100c (g := (mkF m 257 #[.val (.int p0), .val (.int p1), .val (.int p2), .val (.int p3), .val (.int ((p0 &&& (2147483647 : Int32)) % (9 : Int32))), .val (.ref o), .val (.int tg), .val (.int (1 : Int32)), .val (.ref b79), .val (.int (1 : Int32)), .val (.ref b_84)] [(.ref b_84), (.ref o)])) rfl (by rw [hml]; rfl) (Steps.refl _) (argsL := [(.ref b_84)]) (rest := []) (lenOf own_pd1 rfl) rfl (by show 2 * 0 + _ ≤ _; exact Nat.le_of_eq rfl) (hb hby at_257) (fun _ _ => ⟨rfl, e97, (by decide : 2 + 0 ≤ _), (by decide : 2 + 0 ≤ _)⟩)
        dsimp only [Pt.U, Pt.locs, Pt.cells, Pt.slots] at X100 l100 y100 z100 st100 hQ100
        subst l100 y100 z100
        obtain ⟨rfl, N100q, e100⟩ := hQ100
        have N100 := Fr.app N97 N100q
        have hc260_101 : ¬ ((own_f_rm2_1 tg (nar .byte tg)) = (0 : Int32)) := by unfold own_f_rm2_1; rw [if_pos (own_nt tg htg)]; decide
        obtain ⟨fs, hr, hrun, hended, hW, hsame⟩ := X100.leave (v := some (.int (1 : Int32))) (fun h => by rw [Bd.returns] at h; cases h)
        refine ⟨_, _, pre82 _ ?_, hrun, hended, _, _, rfl, ?_, ⟨_, rfl⟩, hW, hsame.mono (by decide) (by decide)⟩
        · show Steps p.tables e below (T81.setTop (mkF m 224 #[.val (.int p0), .val (.int p1), .val (.int p2), .val (.int p3), .val (.int ((p0 &&& (2147483647 : Int32)) % (9 : Int32))), .val (.ref o), .val (.int tg), .val (.int (1 : Int32)), .val (.ref b79), .unset, .unset] [(.int tg), (.int (p2 &&& (255 : Int32)))])) _
          refine XS.icmpNo X81.here hx rfl (hb hby at_224) rfl (teq hc224).2 ?_
          show Steps p.tables e below (T81.setTop (mkF m 227 #[.val (.int p0), .val (.int p1), .val (.int p2), .val (.int p3), .val (.int ((p0 &&& (2147483647 : Int32)) % (9 : Int32))), .val (.ref o), .val (.int tg), .val (.int (1 : Int32)), .val (.ref b79), .unset, .unset] [])) _
          refine XS.iconst X81.here hx rfl (hb hby at_227) ?_
          show Steps p.tables e below (T81.setTop (mkF m 228 #[.val (.int p0), .val (.int p1), .val (.int p2), .val (.int p3), .val (.int ((p0 &&& (2147483647 : Int32)) % (9 : Int32))), .val (.ref o), .val (.int tg), .val (.int (1 : Int32)), .val (.ref b79), .unset, .unset] [(.int (1 : Int32))])) _
          refine XS.goto X81.here hx rfl (pc0 := 228) (pc' := 232) rfl (hb hby at_228) (by decide) (by decide) ?_
          show Steps p.tables e below (T81.setTop (mkF m 232 #[.val (.int p0), .val (.int p1), .val (.int p2), .val (.int p3), .val (.int ((p0 &&& (2147483647 : Int32)) % (9 : Int32))), .val (.ref o), .val (.int tg), .val (.int (1 : Int32)), .val (.ref b79), .unset, .unset] [(.int (1 : Int32))])) _
          refine XS.istore X81.here hx rfl (hb hby at_232) rfl (l' := #[.val (.int p0), .val (.int p1), .val (.int p2), .val (.int p3), .val (.int ((p0 &&& (2147483647 : Int32)) % (9 : Int32))), .val (.ref o), .val (.int tg), .val (.int (1 : Int32)), .val (.ref b79), .val (.int (1 : Int32)), .unset]) rfl ?_
          show Steps p.tables e below (T81.setTop (mkF m 234 #[.val (.int p0), .val (.int p1), .val (.int p2), .val (.int p3), .val (.int ((p0 &&& (2147483647 : Int32)) % (9 : Int32))), .val (.ref o), .val (.int tg), .val (.int (1 : Int32)), .val (.ref b79), .val (.int (1 : Int32)), .unset] [])) _
          refine XS.aload X81.here hx rfl (hb hby at_234) rfl rfl ?_
          show Steps p.tables e below (T81.setTop (mkF m 236 #[.val (.int p0), .val (.int p1), .val (.int p2), .val (.int p3), .val (.int ((p0 &&& (2147483647 : Int32)) % (9 : Int32))), .val (.ref o), .val (.int tg), .val (.int (1 : Int32)), .val (.ref b79), .val (.int (1 : Int32)), .unset] [(.ref o)])) _
          refine st84.trans ?_
          show Steps p.tables e below (T84.setTop (mkF m 239 #[.val (.int p0), .val (.int p1), .val (.int p2), .val (.int p3), .val (.int ((p0 &&& (2147483647 : Int32)) % (9 : Int32))), .val (.ref o), .val (.int tg), .val (.int (1 : Int32)), .val (.ref b79), .val (.int (1 : Int32)), .unset] [(.ref b_84)])) _
          refine XS.astore X84.here hx rfl (hb hby at_239) rfl rfl (l' := #[.val (.int p0), .val (.int p1), .val (.int p2), .val (.int p3), .val (.int ((p0 &&& (2147483647 : Int32)) % (9 : Int32))), .val (.ref o), .val (.int tg), .val (.int (1 : Int32)), .val (.ref b79), .val (.int (1 : Int32)), .val (.ref b_84)]) rfl ?_
          show Steps p.tables e below (T84.setTop (mkF m 241 #[.val (.int p0), .val (.int p1), .val (.int p2), .val (.int p3), .val (.int ((p0 &&& (2147483647 : Int32)) % (9 : Int32))), .val (.ref o), .val (.int tg), .val (.int (1 : Int32)), .val (.ref b79), .val (.int (1 : Int32)), .val (.ref b_84)] [])) _
          refine XS.aload X84.here hx rfl (hb hby at_241) rfl rfl ?_
          show Steps p.tables e below (T84.setTop (mkF m 243 #[.val (.int p0), .val (.int p1), .val (.int p2), .val (.int p3), .val (.int ((p0 &&& (2147483647 : Int32)) % (9 : Int32))), .val (.ref o), .val (.int tg), .val (.int (1 : Int32)), .val (.ref b79), .val (.int (1 : Int32)), .val (.ref b_84)] [(.ref o)])) _
          refine XS.aload X84.here hx rfl (hb hby at_243) rfl rfl ?_
          show Steps p.tables e below (T84.setTop (mkF m 245 #[.val (.int p0), .val (.int p1), .val (.int p2), .val (.int p3), .val (.int ((p0 &&& (2147483647 : Int32)) % (9 : Int32))), .val (.ref o), .val (.int tg), .val (.int (1 : Int32)), .val (.ref b79), .val (.int (1 : Int32)), .val (.ref b_84)] [(.ref b79), (.ref o)])) _
          refine st97.trans ?_
          show Steps p.tables e below (T97.setTop (mkF m 248 #[.val (.int p0), .val (.int p1), .val (.int p2), .val (.int p3), .val (.int ((p0 &&& (2147483647 : Int32)) % (9 : Int32))), .val (.ref o), .val (.int tg), .val (.int (1 : Int32)), .val (.ref b79), .val (.int (1 : Int32)), .val (.ref b_84)] [(.int (own_f_rm2_1 tg (nar .byte (p2.toInt8.toInt32))))])) _
          refine XS.iload X97.here hx rfl (hb hby at_248) rfl ?_
          show Steps p.tables e below (T97.setTop (mkF m 250 #[.val (.int p0), .val (.int p1), .val (.int p2), .val (.int p3), .val (.int ((p0 &&& (2147483647 : Int32)) % (9 : Int32))), .val (.ref o), .val (.int tg), .val (.int (1 : Int32)), .val (.ref b79), .val (.int (1 : Int32)), .val (.ref b_84)] [(.int (1 : Int32)), (.int (own_f_rm2_1 tg (nar .byte (p2.toInt8.toInt32))))])) _
          refine XS.icmpNo X97.here hx rfl (hb hby at_250) rfl (teq hc250_99).2 ?_
          show Steps p.tables e below (T97.setTop (mkF m 253 #[.val (.int p0), .val (.int p1), .val (.int p2), .val (.int p3), .val (.int ((p0 &&& (2147483647 : Int32)) % (9 : Int32))), .val (.ref o), .val (.int tg), .val (.int (1 : Int32)), .val (.ref b79), .val (.int (1 : Int32)), .val (.ref b_84)] [])) _
          refine XS.aload X97.here hx rfl (hb hby at_253) rfl rfl ?_
          show Steps p.tables e below (T97.setTop (mkF m 255 #[.val (.int p0), .val (.int p1), .val (.int p2), .val (.int p3), .val (.int ((p0 &&& (2147483647 : Int32)) % (9 : Int32))), .val (.ref o), .val (.int tg), .val (.int (1 : Int32)), .val (.ref b79), .val (.int (1 : Int32)), .val (.ref b_84)] [(.ref o)])) _
          refine XS.aload X97.here hx rfl (hb hby at_255) rfl rfl ?_
          show Steps p.tables e below (T97.setTop (mkF m 257 #[.val (.int p0), .val (.int p1), .val (.int p2), .val (.int p3), .val (.int ((p0 &&& (2147483647 : Int32)) % (9 : Int32))), .val (.ref o), .val (.int tg), .val (.int (1 : Int32)), .val (.ref b79), .val (.int (1 : Int32)), .val (.ref b_84)] [(.ref b_84), (.ref o)])) _
          refine st100.trans ?_
          show Steps p.tables e below (T100.setTop (mkF m 260 #[.val (.int p0), .val (.int p1), .val (.int p2), .val (.int p3), .val (.int ((p0 &&& (2147483647 : Int32)) % (9 : Int32))), .val (.ref o), .val (.int tg), .val (.int (1 : Int32)), .val (.ref b79), .val (.int (1 : Int32)), .val (.ref b_84)] [(.int (own_f_rm2_1 tg (nar .byte tg)))])) _
          refine XS.ifNo X100.here hx rfl (hb hby at_260) rfl ((if0 _ _).trans (feq hc260_101).1) ?_
          show Steps p.tables e below (T100.setTop (mkF m 263 #[.val (.int p0), .val (.int p1), .val (.int p2), .val (.int p3), .val (.int ((p0 &&& (2147483647 : Int32)) % (9 : Int32))), .val (.ref o), .val (.int tg), .val (.int (1 : Int32)), .val (.ref b79), .val (.int (1 : Int32)), .val (.ref b_84)] [])) _
          refine XS.iconst X100.here hx rfl (hb hby at_263) ?_
          show Steps p.tables e below (T100.setTop (mkF m 264 #[.val (.int p0), .val (.int p1), .val (.int p2), .val (.int p3), .val (.int ((p0 &&& (2147483647 : Int32)) % (9 : Int32))), .val (.ref o), .val (.int tg), .val (.int (1 : Int32)), .val (.ref b79), .val (.int (1 : Int32)), .val (.ref b_84)] [(.int (1 : Int32))])) _
          refine XS.goto X100.here hx rfl (pc0 := 264) (pc' := 268) rfl (hb hby at_264) (by decide) (by decide) ?_
          show Steps p.tables e below (T100.setTop (mkF m 268 #[.val (.int p0), .val (.int p1), .val (.int p2), .val (.int p3), .val (.int ((p0 &&& (2147483647 : Int32)) % (9 : Int32))), .val (.ref o), .val (.int tg), .val (.int (1 : Int32)), .val (.ref b79), .val (.int (1 : Int32)), .val (.ref b_84)] [(.int (1 : Int32))])) _
          exact retN X100 hx (t := .boolean) Bd.returns (by simp) (hb hby at_268) hr
        · show Q0 Z p0 p1 p2 p3 o0 o1 o2 o3 o4 o5 o6 o7 o8 h0 n0 _ T100.heap _
          rw [e100]
          exact ⟨rfl, N100⟩
      · have Q102 := ((F_o_tag.ext E79).other W81 (Or.inl ne_o_b79))
        have Q104 := ((E_o.ext E79).wr W81)
        obtain ⟨cq103, kq103, q103a, q103b, q103c⟩ := isOf hZ e81 Q104
        obtain ⟨_, _, ⟨T103, L103, k103, n103⟩, -, X103, ⟨Lc103, hQ103, l103, y103, z103⟩, st103⟩ := X81.virtualBack hx (y := (⟨"com/example/counterpoise/counterpoise/store/Records$Kind", "prefix", "()[B"⟩ : MethodName)) (z := (⟨"com/example/counterpoise/counterpoise/store/Records$Kind", "prefix", "()[B"⟩ : MethodName)) hown (mvT hZ (hw _ (List.mem_of_getElem? (i := 5) rfl))) (mvT hZ (hw _ (List.mem_of_getElem? (i := 6) rfl))) (notFace_of_selects (args := #[]) (mvT hZ (hw _ (List.mem_of_getElem? (i := 8) rfl)))) (mvT hZ (hw _ (List.mem_of_getElem? (i := 8) rfl))) (mvT hZ (hw _ (List.mem_of_getElem? (i := 7) rfl))) (by decide) (backOf (W := 0) (rm1 l Z a0 hw [] o tg h81 n0 (Nat.le_trans Z0 K81.1) Q102) hZ (hw _ (List.mem_of_getElem? (i := 9) rfl)) (hw _ (List.mem_of_getElem? (i := 2) rfl)) (by decide) (by decide)) q103a q103c (g := (mkF m 236 #[.val (.int p0), .val (.int p1), .val (.int p2), .val (.int p3), .val (.int ((p0 &&& (2147483647 : Int32)) % (9 : Int32))), .val (.ref o), .val (.int tg), .val (.int (1 : Int32)), .val (.ref b79), .val (.int (0 : Int32)), .unset] [(.ref o)])) rfl (by rw [hml]; rfl) (Steps.refl _) (argsL := []) (rest := []) (lenOf own_pd0 rfl) rfl (by show 2 * 0 + _ ≤ _; exact Nat.le_of_eq rfl) (hb hby at_236) (fun _ _ => ⟨rfl, e81, (by decide : 1 + 1 ≤ _), (by decide : 1 + 1 ≤ _)⟩)
        dsimp only [Pt.U, Pt.locs, Pt.cells, Pt.slots] at X103 l103 y103 z103 st103 hQ103
        subst l103 y103 z103
        obtain ⟨b_103, k_103, rfl, N103q, i103_4, i103_5, i103_6⟩ := hQ103
        have N103 := Fr.app N81 N103q
        have Q105 := ((E_o0.ext E79).wr W81)
        have ne_o0_b_103 : o0 ≠ b_103 := Nat.ne_of_lt (Nat.lt_of_lt_of_le Q105.lt i103_5)
        have Q106 := ((E_o1.ext E79).wr W81)
        have ne_o1_b_103 : o1 ≠ b_103 := Nat.ne_of_lt (Nat.lt_of_lt_of_le Q106.lt i103_5)
        have Q107 := ((E_o2.ext E79).wr W81)
        have ne_o2_b_103 : o2 ≠ b_103 := Nat.ne_of_lt (Nat.lt_of_lt_of_le Q107.lt i103_5)
        have Q108 := ((E_o3.ext E79).wr W81)
        have ne_o3_b_103 : o3 ≠ b_103 := Nat.ne_of_lt (Nat.lt_of_lt_of_le Q108.lt i103_5)
        have Q109 := ((E_o4.ext E79).wr W81)
        have ne_o4_b_103 : o4 ≠ b_103 := Nat.ne_of_lt (Nat.lt_of_lt_of_le Q109.lt i103_5)
        have Q110 := ((E_o5.ext E79).wr W81)
        have ne_o5_b_103 : o5 ≠ b_103 := Nat.ne_of_lt (Nat.lt_of_lt_of_le Q110.lt i103_5)
        have Q111 := ((E_o6.ext E79).wr W81)
        have ne_o6_b_103 : o6 ≠ b_103 := Nat.ne_of_lt (Nat.lt_of_lt_of_le Q111.lt i103_5)
        have Q112 := ((E_o7.ext E79).wr W81)
        have ne_o7_b_103 : o7 ≠ b_103 := Nat.ne_of_lt (Nat.lt_of_lt_of_le Q112.lt i103_5)
        have Q113 := ((E_o8.ext E79).wr W81)
        have ne_o8_b_103 : o8 ≠ b_103 := Nat.ne_of_lt (Nat.lt_of_lt_of_le Q113.lt i103_5)
        have ne_o_b_103 : o ≠ b_103 := Nat.ne_of_lt (Nat.lt_of_lt_of_le Q104.lt i103_5)
        have ne_b79_b_103 : b79 ≠ b_103 := Nat.ne_of_lt (Nat.lt_of_lt_of_le V81.lt i103_5)
        have gg_b_103 : n0 ≤ b_103 := Nat.le_trans (Nat.le_trans Z0 K81.1) i103_5
        have sz_b_103 : h0.size ≤ b_103 := Nat.le_trans K81.1 i103_5
        have K103 := K81.trans i103_4 all0
        have Q114 := (Q102.keep i103_4 nin0)
        have Q115 := (V81.keep i103_4 nin0)
        have Q117 := (Q104.keep i103_4)
        obtain ⟨cq116, kq116, q116a, q116b, q116c⟩ := isOf hZ rfl Q117
        obtain ⟨_, _, ⟨T116, L116, k116, n116⟩, -, X116, ⟨Lc116, hQ116, l116, y116, z116⟩, st116⟩ := X103.virtualBack hx (y := (⟨"com/example/counterpoise/counterpoise/store/Records$Kind", "holds", "([B)Z"⟩ : MethodName)) (z := (⟨"com/example/counterpoise/counterpoise/store/Records$Kind", "holds", "([B)Z"⟩ : MethodName)) hown (mvT hZ (hw _ (List.mem_of_getElem? (i := 12) rfl))) (mvT hZ (hw _ (List.mem_of_getElem? (i := 13) rfl))) (notFace_of_selects (args := #[]) (mvT hZ (hw _ (List.mem_of_getElem? (i := 15) rfl)))) (mvT hZ (hw _ (List.mem_of_getElem? (i := 15) rfl))) (mvT hZ (hw _ (List.mem_of_getElem? (i := 14) rfl))) (by decide) (backOf (W := 0) (rm2_1 l Z a0 hw [] o b79 k79 tg (nar .byte (p2.toInt8.toInt32)) T103.heap n0 (Nat.le_trans Z0 K103.1) Q114 Q115) hZ (hw _ (List.mem_of_getElem? (i := 16) rfl)) (hw _ (List.mem_of_getElem? (i := 2) rfl)) (by decide) (by decide)) q116a q116c (g := (mkF m 245 #[.val (.int p0), .val (.int p1), .val (.int p2), .val (.int p3), .val (.int ((p0 &&& (2147483647 : Int32)) % (9 : Int32))), .val (.ref o), .val (.int tg), .val (.int (1 : Int32)), .val (.ref b79), .val (.int (0 : Int32)), .val (.ref b_103)] [(.ref b79), (.ref o)])) rfl (by rw [hml]; rfl) (Steps.refl _) (argsL := [(.ref b79)]) (rest := []) (lenOf own_pd1 rfl) rfl (by show 2 * 0 + _ ≤ _; exact Nat.le_of_eq rfl) (hb hby at_245) (fun _ _ => ⟨rfl, rfl, (by decide : 2 + 0 ≤ _), (by decide : 2 + 0 ≤ _)⟩)
        dsimp only [Pt.U, Pt.locs, Pt.cells, Pt.slots] at X116 l116 y116 z116 st116 hQ116
        subst l116 y116 z116
        obtain ⟨rfl, N116q, e116⟩ := hQ116
        have N116 := Fr.app N103 N116q
        have hc250_118 : (own_f_rm2_1 tg (nar .byte (p2.toInt8.toInt32))) = (0 : Int32) := by unfold own_f_rm2_1; rw [if_neg (fun q => hc224 ((own_bt p2 tg htg).mp q))]
        obtain ⟨cq119, kq119, q119a, q119b, q119c⟩ := isOf hZ e116 Q117
        obtain ⟨_, _, ⟨T119, L119, k119, n119⟩, -, X119, ⟨Lc119, hQ119, l119, y119, z119⟩, st119⟩ := X116.virtualBack hx (y := (⟨"com/example/counterpoise/counterpoise/store/Records$Kind", "holds", "([B)Z"⟩ : MethodName)) (z := (⟨"com/example/counterpoise/counterpoise/store/Records$Kind", "holds", "([B)Z"⟩ : MethodName)) hown (mvT hZ (hw _ (List.mem_of_getElem? (i := 12) rfl))) (mvT hZ (hw _ (List.mem_of_getElem? (i := 13) rfl))) (notFace_of_selects (args := #[]) (mvT hZ (hw _ (List.mem_of_getElem? (i := 15) rfl)))) (mvT hZ (hw _ (List.mem_of_getElem? (i := 15) rfl))) (mvT hZ (hw _ (List.mem_of_getElem? (i := 14) rfl))) (by decide) (backOf (W := 0) (rm2_1 l Z a0 hw [] o b_103 k_103 tg (nar .byte tg) T103.heap n0 (Nat.le_trans Z0 K103.1) Q114 i103_6) hZ (hw _ (List.mem_of_getElem? (i := 16) rfl)) (hw _ (List.mem_of_getElem? (i := 2) rfl)) (by decide) (by decide)) q119a q119c (g := (mkF m 257 #[.val (.int p0), .val (.int p1), .val (.int p2), .val (.int p3), .val (.int ((p0 &&& (2147483647 : Int32)) % (9 : Int32))), .val (.ref o), .val (.int tg), .val (.int (1 : Int32)), .val (.ref b79), .val (.int (0 : Int32)), .val (.ref b_103)] [(.ref b_103), (.ref o)])) rfl (by rw [hml]; rfl) (Steps.refl _) (argsL := [(.ref b_103)]) (rest := []) (lenOf own_pd1 rfl) rfl (by show 2 * 0 + _ ≤ _; exact Nat.le_of_eq rfl) (hb hby at_257) (fun _ _ => ⟨rfl, e116, (by decide : 2 + 0 ≤ _), (by decide : 2 + 0 ≤ _)⟩)
        dsimp only [Pt.U, Pt.locs, Pt.cells, Pt.slots] at X119 l119 y119 z119 st119 hQ119
        subst l119 y119 z119
        obtain ⟨rfl, N119q, e119⟩ := hQ119
        have N119 := Fr.app N116 N119q
        have hc260_120 : ¬ ((own_f_rm2_1 tg (nar .byte tg)) = (0 : Int32)) := by unfold own_f_rm2_1; rw [if_pos (own_nt tg htg)]; decide
        obtain ⟨fs, hr, hrun, hended, hW, hsame⟩ := X119.leave (v := some (.int (1 : Int32))) (fun h => by rw [Bd.returns] at h; cases h)
        refine ⟨_, _, pre82 _ ?_, hrun, hended, _, _, rfl, ?_, ⟨_, rfl⟩, hW, hsame.mono (by decide) (by decide)⟩
        · show Steps p.tables e below (T81.setTop (mkF m 224 #[.val (.int p0), .val (.int p1), .val (.int p2), .val (.int p3), .val (.int ((p0 &&& (2147483647 : Int32)) % (9 : Int32))), .val (.ref o), .val (.int tg), .val (.int (1 : Int32)), .val (.ref b79), .unset, .unset] [(.int tg), (.int (p2 &&& (255 : Int32)))])) _
          refine XS.icmpYes X81.here hx rfl (pc0 := 224) (pc' := 231) rfl (hb hby at_224) rfl (feq hc224).2 (by decide) (by decide) ?_
          show Steps p.tables e below (T81.setTop (mkF m 231 #[.val (.int p0), .val (.int p1), .val (.int p2), .val (.int p3), .val (.int ((p0 &&& (2147483647 : Int32)) % (9 : Int32))), .val (.ref o), .val (.int tg), .val (.int (1 : Int32)), .val (.ref b79), .unset, .unset] [])) _
          refine XS.iconst X81.here hx rfl (hb hby at_231) ?_
          show Steps p.tables e below (T81.setTop (mkF m 232 #[.val (.int p0), .val (.int p1), .val (.int p2), .val (.int p3), .val (.int ((p0 &&& (2147483647 : Int32)) % (9 : Int32))), .val (.ref o), .val (.int tg), .val (.int (1 : Int32)), .val (.ref b79), .unset, .unset] [(.int (0 : Int32))])) _
          refine XS.istore X81.here hx rfl (hb hby at_232) rfl (l' := #[.val (.int p0), .val (.int p1), .val (.int p2), .val (.int p3), .val (.int ((p0 &&& (2147483647 : Int32)) % (9 : Int32))), .val (.ref o), .val (.int tg), .val (.int (1 : Int32)), .val (.ref b79), .val (.int (0 : Int32)), .unset]) rfl ?_
          show Steps p.tables e below (T81.setTop (mkF m 234 #[.val (.int p0), .val (.int p1), .val (.int p2), .val (.int p3), .val (.int ((p0 &&& (2147483647 : Int32)) % (9 : Int32))), .val (.ref o), .val (.int tg), .val (.int (1 : Int32)), .val (.ref b79), .val (.int (0 : Int32)), .unset] [])) _
          refine XS.aload X81.here hx rfl (hb hby at_234) rfl rfl ?_
          show Steps p.tables e below (T81.setTop (mkF m 236 #[.val (.int p0), .val (.int p1), .val (.int p2), .val (.int p3), .val (.int ((p0 &&& (2147483647 : Int32)) % (9 : Int32))), .val (.ref o), .val (.int tg), .val (.int (1 : Int32)), .val (.ref b79), .val (.int (0 : Int32)), .unset] [(.ref o)])) _
          refine st103.trans ?_
          show Steps p.tables e below (T103.setTop (mkF m 239 #[.val (.int p0), .val (.int p1), .val (.int p2), .val (.int p3), .val (.int ((p0 &&& (2147483647 : Int32)) % (9 : Int32))), .val (.ref o), .val (.int tg), .val (.int (1 : Int32)), .val (.ref b79), .val (.int (0 : Int32)), .unset] [(.ref b_103)])) _
          refine XS.astore X103.here hx rfl (hb hby at_239) rfl rfl (l' := #[.val (.int p0), .val (.int p1), .val (.int p2), .val (.int p3), .val (.int ((p0 &&& (2147483647 : Int32)) % (9 : Int32))), .val (.ref o), .val (.int tg), .val (.int (1 : Int32)), .val (.ref b79), .val (.int (0 : Int32)), .val (.ref b_103)]) rfl ?_
          show Steps p.tables e below (T103.setTop (mkF m 241 #[.val (.int p0), .val (.int p1), .val (.int p2), .val (.int p3), .val (.int ((p0 &&& (2147483647 : Int32)) % (9 : Int32))), .val (.ref o), .val (.int tg), .val (.int (1 : Int32)), .val (.ref b79), .val (.int (0 : Int32)), .val (.ref b_103)] [])) _
          refine XS.aload X103.here hx rfl (hb hby at_241) rfl rfl ?_
          show Steps p.tables e below (T103.setTop (mkF m 243 #[.val (.int p0), .val (.int p1), .val (.int p2), .val (.int p3), .val (.int ((p0 &&& (2147483647 : Int32)) % (9 : Int32))), .val (.ref o), .val (.int tg), .val (.int (1 : Int32)), .val (.ref b79), .val (.int (0 : Int32)), .val (.ref b_103)] [(.ref o)])) _
          refine XS.aload X103.here hx rfl (hb hby at_243) rfl rfl ?_
          show Steps p.tables e below (T103.setTop (mkF m 245 #[.val (.int p0), .val (.int p1), .val (.int p2), .val (.int p3), .val (.int ((p0 &&& (2147483647 : Int32)) % (9 : Int32))), .val (.ref o), .val (.int tg), .val (.int (1 : Int32)), .val (.ref b79), .val (.int (0 : Int32)), .val (.ref b_103)] [(.ref b79), (.ref o)])) _
          refine st116.trans ?_
          show Steps p.tables e below (T116.setTop (mkF m 248 #[.val (.int p0), .val (.int p1), .val (.int p2), .val (.int p3), .val (.int ((p0 &&& (2147483647 : Int32)) % (9 : Int32))), .val (.ref o), .val (.int tg), .val (.int (1 : Int32)), .val (.ref b79), .val (.int (0 : Int32)), .val (.ref b_103)] [(.int (own_f_rm2_1 tg (nar .byte (p2.toInt8.toInt32))))])) _
          refine XS.iload X116.here hx rfl (hb hby at_248) rfl ?_
          show Steps p.tables e below (T116.setTop (mkF m 250 #[.val (.int p0), .val (.int p1), .val (.int p2), .val (.int p3), .val (.int ((p0 &&& (2147483647 : Int32)) % (9 : Int32))), .val (.ref o), .val (.int tg), .val (.int (1 : Int32)), .val (.ref b79), .val (.int (0 : Int32)), .val (.ref b_103)] [(.int (0 : Int32)), (.int (own_f_rm2_1 tg (nar .byte (p2.toInt8.toInt32))))])) _
          refine XS.icmpNo X116.here hx rfl (hb hby at_250) rfl (teq hc250_118).2 ?_
          show Steps p.tables e below (T116.setTop (mkF m 253 #[.val (.int p0), .val (.int p1), .val (.int p2), .val (.int p3), .val (.int ((p0 &&& (2147483647 : Int32)) % (9 : Int32))), .val (.ref o), .val (.int tg), .val (.int (1 : Int32)), .val (.ref b79), .val (.int (0 : Int32)), .val (.ref b_103)] [])) _
          refine XS.aload X116.here hx rfl (hb hby at_253) rfl rfl ?_
          show Steps p.tables e below (T116.setTop (mkF m 255 #[.val (.int p0), .val (.int p1), .val (.int p2), .val (.int p3), .val (.int ((p0 &&& (2147483647 : Int32)) % (9 : Int32))), .val (.ref o), .val (.int tg), .val (.int (1 : Int32)), .val (.ref b79), .val (.int (0 : Int32)), .val (.ref b_103)] [(.ref o)])) _
          refine XS.aload X116.here hx rfl (hb hby at_255) rfl rfl ?_
          show Steps p.tables e below (T116.setTop (mkF m 257 #[.val (.int p0), .val (.int p1), .val (.int p2), .val (.int p3), .val (.int ((p0 &&& (2147483647 : Int32)) % (9 : Int32))), .val (.ref o), .val (.int tg), .val (.int (1 : Int32)), .val (.ref b79), .val (.int (0 : Int32)), .val (.ref b_103)] [(.ref b_103), (.ref o)])) _
          refine st119.trans ?_
          show Steps p.tables e below (T119.setTop (mkF m 260 #[.val (.int p0), .val (.int p1), .val (.int p2), .val (.int p3), .val (.int ((p0 &&& (2147483647 : Int32)) % (9 : Int32))), .val (.ref o), .val (.int tg), .val (.int (1 : Int32)), .val (.ref b79), .val (.int (0 : Int32)), .val (.ref b_103)] [(.int (own_f_rm2_1 tg (nar .byte tg)))])) _
          refine XS.ifNo X119.here hx rfl (hb hby at_260) rfl ((if0 _ _).trans (feq hc260_120).1) ?_
          show Steps p.tables e below (T119.setTop (mkF m 263 #[.val (.int p0), .val (.int p1), .val (.int p2), .val (.int p3), .val (.int ((p0 &&& (2147483647 : Int32)) % (9 : Int32))), .val (.ref o), .val (.int tg), .val (.int (1 : Int32)), .val (.ref b79), .val (.int (0 : Int32)), .val (.ref b_103)] [])) _
          refine XS.iconst X119.here hx rfl (hb hby at_263) ?_
          show Steps p.tables e below (T119.setTop (mkF m 264 #[.val (.int p0), .val (.int p1), .val (.int p2), .val (.int p3), .val (.int ((p0 &&& (2147483647 : Int32)) % (9 : Int32))), .val (.ref o), .val (.int tg), .val (.int (1 : Int32)), .val (.ref b79), .val (.int (0 : Int32)), .val (.ref b_103)] [(.int (1 : Int32))])) _
          refine XS.goto X119.here hx rfl (pc0 := 264) (pc' := 268) rfl (hb hby at_264) (by decide) (by decide) ?_
          show Steps p.tables e below (T119.setTop (mkF m 268 #[.val (.int p0), .val (.int p1), .val (.int p2), .val (.int p3), .val (.int ((p0 &&& (2147483647 : Int32)) % (9 : Int32))), .val (.ref o), .val (.int tg), .val (.int (1 : Int32)), .val (.ref b79), .val (.int (0 : Int32)), .val (.ref b_103)] [(.int (1 : Int32))])) _
          exact retN X119 hx (t := .boolean) Bd.returns (by simp) (hb hby at_268) hr
        · show Q0 Z p0 p1 p2 p3 o0 o1 o2 o3 o4 o5 o6 o7 o8 h0 n0 _ T119.heap _
          rw [e119]
          exact ⟨rfl, N119⟩
    · obtain ⟨T121, h121, k121, X121, e121, E121, A121, st121⟩ := newP XJ hx hZ (hw _ (List.mem_of_getElem? (i := 4) rfl)) eJ (g := (mkF m 170 #[.val (.int p0), .val (.int p1), .val (.int p2), .val (.int p3), .val (.int ((p0 &&& (2147483647 : Int32)) % (9 : Int32))), .val (.ref o), .val (.int tg), .val (.int (2 : Int32)), .unset, .unset, .unset] [(.int (2 : Int32))])) rfl (hb hby at_170) rfl (by decide) (cap := 2) (by decide) (by decide) (by decide) (by decide)
      obtain ⟨b121, g121⟩ : ∃ z, z = h0.size := ⟨_, rfl⟩
      rw [← g121] at A121 st121
      have ne_o0_b121 : o0 ≠ b121 := Nat.ne_of_lt (Nat.lt_of_lt_of_le E_o0.lt (Nat.le_of_eq g121.symm))
      have ne_o1_b121 : o1 ≠ b121 := Nat.ne_of_lt (Nat.lt_of_lt_of_le E_o1.lt (Nat.le_of_eq g121.symm))
      have ne_o2_b121 : o2 ≠ b121 := Nat.ne_of_lt (Nat.lt_of_lt_of_le E_o2.lt (Nat.le_of_eq g121.symm))
      have ne_o3_b121 : o3 ≠ b121 := Nat.ne_of_lt (Nat.lt_of_lt_of_le E_o3.lt (Nat.le_of_eq g121.symm))
      have ne_o4_b121 : o4 ≠ b121 := Nat.ne_of_lt (Nat.lt_of_lt_of_le E_o4.lt (Nat.le_of_eq g121.symm))
      have ne_o5_b121 : o5 ≠ b121 := Nat.ne_of_lt (Nat.lt_of_lt_of_le E_o5.lt (Nat.le_of_eq g121.symm))
      have ne_o6_b121 : o6 ≠ b121 := Nat.ne_of_lt (Nat.lt_of_lt_of_le E_o6.lt (Nat.le_of_eq g121.symm))
      have ne_o7_b121 : o7 ≠ b121 := Nat.ne_of_lt (Nat.lt_of_lt_of_le E_o7.lt (Nat.le_of_eq g121.symm))
      have ne_o8_b121 : o8 ≠ b121 := Nat.ne_of_lt (Nat.lt_of_lt_of_le E_o8.lt (Nat.le_of_eq g121.symm))
      have ne_o_b121 : o ≠ b121 := Nat.ne_of_lt (Nat.lt_of_lt_of_le E_o.lt (Nat.le_of_eq g121.symm))
      have gg_b121 : n0 ≤ b121 := Nat.le_trans (Nat.le_trans Z0 K0.1) (Nat.le_of_eq g121.symm)
      have sz_b121 : h0.size ≤ b121 := Nat.le_trans K0.1 (Nat.le_of_eq g121.symm)
      have K121 := K0.ext E121
      have V121 : Arv Z h121 b121 k121 .byte (2 : Int32) [(.int (0 : Int32)), (.int (0 : Int32))] (.int (0 : Int32)) := (Arv.new A121 (by decide)).pad (pad_rep [] (.int (0 : Int32)) 2)
      obtain ⟨cl122, Ar122, q122, S122, M122, H122, G122⟩ := id V121
      have hin122 : ¬ ((0 : Int32) < 0 ∨ cl122.slots.size ≤ ((0 : Int32)).toNatClampNeg) := inb_of S122 ⟨by decide, by decide⟩
      obtain ⟨T123, h123, X123, e123, W123, st123⟩ := stB X121 hx hZ e121 Ar122 (j := (0 : Int32)) hin122 (g := (mkF m 184 #[.val (.int p0), .val (.int p1), .val (.int p2), .val (.int p3), .val (.int ((p0 &&& (2147483647 : Int32)) % (9 : Int32))), .val (.ref o), .val (.int tg), .val (.int (2 : Int32)), .val (.ref b121), .unset, .unset] [(.int (p2.toInt8.toInt32)), (.int (0 : Int32)), (.ref b121)])) rfl rfl (hb hby at_184)
      have V123 : Arv Z h123 b121 k121 .byte (2 : Int32) [(.int (nar .byte (p2.toInt8.toInt32))), (.int (0 : Int32))] (.int (0 : Int32)) := Arv.set Ar122 q122 S122 M122 H122 G122 (fits_nar_byte _) W123 0 rfl (Nat.le_of_ble_eq_true rfl)
      have K123 := K121.wr W123 (Or.inr sz_b121)
      have N123 := Fr.snoc X123 N0 gg_b121
      obtain ⟨cl124, Ar124, q124, S124, M124, H124, G124⟩ := id V123
      have hin124 : ¬ ((1 : Int32) < 0 ∨ cl124.slots.size ≤ ((1 : Int32)).toNatClampNeg) := inb_of S124 ⟨by decide, by decide⟩
      obtain ⟨T125, h125, X125, e125, W125, st125⟩ := stB X123 hx hZ e123 Ar124 (j := (1 : Int32)) hin124 (g := (mkF m 196 #[.val (.int p0), .val (.int p1), .val (.int p2), .val (.int p3), .val (.int ((p0 &&& (2147483647 : Int32)) % (9 : Int32))), .val (.ref o), .val (.int tg), .val (.int (2 : Int32)), .val (.ref b121), .unset, .unset] [(.int (p3.toInt8.toInt32)), (.int (1 : Int32)), (.ref b121)])) rfl rfl (hb hby at_196)
      have V125 : Arv Z h125 b121 k121 .byte (2 : Int32) [(.int (nar .byte (p2.toInt8.toInt32))), (.int (nar .byte (p3.toInt8.toInt32)))] (.int (0 : Int32)) := Arv.set Ar124 q124 S124 M124 H124 G124 (fits_nar_byte _) W125 1 rfl (Nat.le_of_ble_eq_true rfl)
      have K125 := K123.wr W125 (Or.inr sz_b121)
      have N125 := Fr.snoc X125 N123 gg_b121
      have pre126 : ∀ t, Steps p.tables e below (T125.setTop (mkF m 224 #[.val (.int p0), .val (.int p1), .val (.int p2), .val (.int p3), .val (.int ((p0 &&& (2147483647 : Int32)) % (9 : Int32))), .val (.ref o), .val (.int tg), .val (.int (2 : Int32)), .val (.ref b121), .unset, .unset] [(.int tg), (.int (p2 &&& (255 : Int32)))])) t → Steps p.tables e below (s₁.setTop (entryFrame m #[(.int p0), (.int p1), (.int p2), (.int p3)] maxLocals)) t := fun t k => by
        refine pre58 _ ?_
        show Steps p.tables e below (TJ.setTop (mkF m 168 #[.val (.int p0), .val (.int p1), .val (.int p2), .val (.int p3), .val (.int ((p0 &&& (2147483647 : Int32)) % (9 : Int32))), .val (.ref o), .val (.int tg), .val (.int (p1 &&& (3 : Int32))), .unset, .unset, .unset] [])) _
        rw [hk]
        show Steps p.tables e below (TJ.setTop (mkF m 168 #[.val (.int p0), .val (.int p1), .val (.int p2), .val (.int p3), .val (.int ((p0 &&& (2147483647 : Int32)) % (9 : Int32))), .val (.ref o), .val (.int tg), .val (.int (2 : Int32)), .unset, .unset, .unset] [])) _
        refine XS.iload XJ.here hx rfl (hb hby at_168) rfl ?_
        show Steps p.tables e below (TJ.setTop (mkF m 170 #[.val (.int p0), .val (.int p1), .val (.int p2), .val (.int p3), .val (.int ((p0 &&& (2147483647 : Int32)) % (9 : Int32))), .val (.ref o), .val (.int tg), .val (.int (2 : Int32)), .unset, .unset, .unset] [(.int (2 : Int32))])) _
        refine st121 _ ?_
        show Steps p.tables e below (T121.setTop (mkF m 172 #[.val (.int p0), .val (.int p1), .val (.int p2), .val (.int p3), .val (.int ((p0 &&& (2147483647 : Int32)) % (9 : Int32))), .val (.ref o), .val (.int tg), .val (.int (2 : Int32)), .unset, .unset, .unset] [(.ref b121)])) _
        refine XS.astore X121.here hx rfl (hb hby at_172) rfl rfl (l' := #[.val (.int p0), .val (.int p1), .val (.int p2), .val (.int p3), .val (.int ((p0 &&& (2147483647 : Int32)) % (9 : Int32))), .val (.ref o), .val (.int tg), .val (.int (2 : Int32)), .val (.ref b121), .unset, .unset]) rfl ?_
        show Steps p.tables e below (T121.setTop (mkF m 174 #[.val (.int p0), .val (.int p1), .val (.int p2), .val (.int p3), .val (.int ((p0 &&& (2147483647 : Int32)) % (9 : Int32))), .val (.ref o), .val (.int tg), .val (.int (2 : Int32)), .val (.ref b121), .unset, .unset] [])) _
        refine XS.iload X121.here hx rfl (hb hby at_174) rfl ?_
        show Steps p.tables e below (T121.setTop (mkF m 176 #[.val (.int p0), .val (.int p1), .val (.int p2), .val (.int p3), .val (.int ((p0 &&& (2147483647 : Int32)) % (9 : Int32))), .val (.ref o), .val (.int tg), .val (.int (2 : Int32)), .val (.ref b121), .unset, .unset] [(.int (2 : Int32))])) _
        refine XS.ifNo X121.here hx rfl (hb hby at_176) rfl ((if0 _ _).trans (tlt (by decide : ((0 : Int32) < (2 : Int32)))).2.2.2) ?_
        show Steps p.tables e below (T121.setTop (mkF m 179 #[.val (.int p0), .val (.int p1), .val (.int p2), .val (.int p3), .val (.int ((p0 &&& (2147483647 : Int32)) % (9 : Int32))), .val (.ref o), .val (.int tg), .val (.int (2 : Int32)), .val (.ref b121), .unset, .unset] [])) _
        refine XS.aload X121.here hx rfl (hb hby at_179) rfl rfl ?_
        show Steps p.tables e below (T121.setTop (mkF m 181 #[.val (.int p0), .val (.int p1), .val (.int p2), .val (.int p3), .val (.int ((p0 &&& (2147483647 : Int32)) % (9 : Int32))), .val (.ref o), .val (.int tg), .val (.int (2 : Int32)), .val (.ref b121), .unset, .unset] [(.ref b121)])) _
        refine XS.iconst X121.here hx rfl (hb hby at_181) ?_
        show Steps p.tables e below (T121.setTop (mkF m 182 #[.val (.int p0), .val (.int p1), .val (.int p2), .val (.int p3), .val (.int ((p0 &&& (2147483647 : Int32)) % (9 : Int32))), .val (.ref o), .val (.int tg), .val (.int (2 : Int32)), .val (.ref b121), .unset, .unset] [(.int (0 : Int32)), (.ref b121)])) _
        refine XS.iloadN X121.here hx rfl (hb hby at_182) rfl ?_
        show Steps p.tables e below (T121.setTop (mkF m 183 #[.val (.int p0), .val (.int p1), .val (.int p2), .val (.int p3), .val (.int ((p0 &&& (2147483647 : Int32)) % (9 : Int32))), .val (.ref o), .val (.int tg), .val (.int (2 : Int32)), .val (.ref b121), .unset, .unset] [(.int p2), (.int (0 : Int32)), (.ref b121)])) _
        refine XS.i2b X121.here hx rfl (hb hby at_183) rfl ?_
        show Steps p.tables e below (T121.setTop (mkF m 184 #[.val (.int p0), .val (.int p1), .val (.int p2), .val (.int p3), .val (.int ((p0 &&& (2147483647 : Int32)) % (9 : Int32))), .val (.ref o), .val (.int tg), .val (.int (2 : Int32)), .val (.ref b121), .unset, .unset] [(.int (p2.toInt8.toInt32)), (.int (0 : Int32)), (.ref b121)])) _
        refine st123 _ ?_
        show Steps p.tables e below (T123.setTop (mkF m 185 #[.val (.int p0), .val (.int p1), .val (.int p2), .val (.int p3), .val (.int ((p0 &&& (2147483647 : Int32)) % (9 : Int32))), .val (.ref o), .val (.int tg), .val (.int (2 : Int32)), .val (.ref b121), .unset, .unset] [])) _
        refine XS.iload X123.here hx rfl (hb hby at_185) rfl ?_
        show Steps p.tables e below (T123.setTop (mkF m 187 #[.val (.int p0), .val (.int p1), .val (.int p2), .val (.int p3), .val (.int ((p0 &&& (2147483647 : Int32)) % (9 : Int32))), .val (.ref o), .val (.int tg), .val (.int (2 : Int32)), .val (.ref b121), .unset, .unset] [(.int (2 : Int32))])) _
        refine XS.iconst X123.here hx rfl (hb hby at_187) ?_
        show Steps p.tables e below (T123.setTop (mkF m 188 #[.val (.int p0), .val (.int p1), .val (.int p2), .val (.int p3), .val (.int ((p0 &&& (2147483647 : Int32)) % (9 : Int32))), .val (.ref o), .val (.int tg), .val (.int (2 : Int32)), .val (.ref b121), .unset, .unset] [(.int (1 : Int32)), (.int (2 : Int32))])) _
        refine XS.icmpNo X123.here hx rfl (hb hby at_188) rfl (tlt (by decide : ((1 : Int32) < (2 : Int32)))).2.2.2 ?_
        show Steps p.tables e below (T123.setTop (mkF m 191 #[.val (.int p0), .val (.int p1), .val (.int p2), .val (.int p3), .val (.int ((p0 &&& (2147483647 : Int32)) % (9 : Int32))), .val (.ref o), .val (.int tg), .val (.int (2 : Int32)), .val (.ref b121), .unset, .unset] [])) _
        refine XS.aload X123.here hx rfl (hb hby at_191) rfl rfl ?_
        show Steps p.tables e below (T123.setTop (mkF m 193 #[.val (.int p0), .val (.int p1), .val (.int p2), .val (.int p3), .val (.int ((p0 &&& (2147483647 : Int32)) % (9 : Int32))), .val (.ref o), .val (.int tg), .val (.int (2 : Int32)), .val (.ref b121), .unset, .unset] [(.ref b121)])) _
        refine XS.iconst X123.here hx rfl (hb hby at_193) ?_
        show Steps p.tables e below (T123.setTop (mkF m 194 #[.val (.int p0), .val (.int p1), .val (.int p2), .val (.int p3), .val (.int ((p0 &&& (2147483647 : Int32)) % (9 : Int32))), .val (.ref o), .val (.int tg), .val (.int (2 : Int32)), .val (.ref b121), .unset, .unset] [(.int (1 : Int32)), (.ref b121)])) _
        refine XS.iloadN X123.here hx rfl (hb hby at_194) rfl ?_
        show Steps p.tables e below (T123.setTop (mkF m 195 #[.val (.int p0), .val (.int p1), .val (.int p2), .val (.int p3), .val (.int ((p0 &&& (2147483647 : Int32)) % (9 : Int32))), .val (.ref o), .val (.int tg), .val (.int (2 : Int32)), .val (.ref b121), .unset, .unset] [(.int p3), (.int (1 : Int32)), (.ref b121)])) _
        refine XS.i2b X123.here hx rfl (hb hby at_195) rfl ?_
        show Steps p.tables e below (T123.setTop (mkF m 196 #[.val (.int p0), .val (.int p1), .val (.int p2), .val (.int p3), .val (.int ((p0 &&& (2147483647 : Int32)) % (9 : Int32))), .val (.ref o), .val (.int tg), .val (.int (2 : Int32)), .val (.ref b121), .unset, .unset] [(.int (p3.toInt8.toInt32)), (.int (1 : Int32)), (.ref b121)])) _
        refine st125 _ ?_
        show Steps p.tables e below (T125.setTop (mkF m 197 #[.val (.int p0), .val (.int p1), .val (.int p2), .val (.int p3), .val (.int ((p0 &&& (2147483647 : Int32)) % (9 : Int32))), .val (.ref o), .val (.int tg), .val (.int (2 : Int32)), .val (.ref b121), .unset, .unset] [])) _
        refine XS.iload X125.here hx rfl (hb hby at_197) rfl ?_
        show Steps p.tables e below (T125.setTop (mkF m 199 #[.val (.int p0), .val (.int p1), .val (.int p2), .val (.int p3), .val (.int ((p0 &&& (2147483647 : Int32)) % (9 : Int32))), .val (.ref o), .val (.int tg), .val (.int (2 : Int32)), .val (.ref b121), .unset, .unset] [(.int (2 : Int32))])) _
        refine XS.iconst X125.here hx rfl (hb hby at_199) ?_
        show Steps p.tables e below (T125.setTop (mkF m 200 #[.val (.int p0), .val (.int p1), .val (.int p2), .val (.int p3), .val (.int ((p0 &&& (2147483647 : Int32)) % (9 : Int32))), .val (.ref o), .val (.int tg), .val (.int (2 : Int32)), .val (.ref b121), .unset, .unset] [(.int (2 : Int32)), (.int (2 : Int32))])) _
        refine XS.icmpYes X125.here hx rfl (pc0 := 200) (pc' := 212) rfl (hb hby at_200) rfl (flt (by decide : ¬ ((2 : Int32) < (2 : Int32)))).2.2.2 (by decide) (by decide) ?_
        show Steps p.tables e below (T125.setTop (mkF m 212 #[.val (.int p0), .val (.int p1), .val (.int p2), .val (.int p3), .val (.int ((p0 &&& (2147483647 : Int32)) % (9 : Int32))), .val (.ref o), .val (.int tg), .val (.int (2 : Int32)), .val (.ref b121), .unset, .unset] [])) _
        refine XS.iload X125.here hx rfl (hb hby at_212) rfl ?_
        show Steps p.tables e below (T125.setTop (mkF m 214 #[.val (.int p0), .val (.int p1), .val (.int p2), .val (.int p3), .val (.int ((p0 &&& (2147483647 : Int32)) % (9 : Int32))), .val (.ref o), .val (.int tg), .val (.int (2 : Int32)), .val (.ref b121), .unset, .unset] [(.int (2 : Int32))])) _
        refine XS.ifNo X125.here hx rfl (hb hby at_214) rfl ((if0 _ _).trans (tlt (by decide : ((0 : Int32) < (2 : Int32)))).2.2.2) ?_
        show Steps p.tables e below (T125.setTop (mkF m 217 #[.val (.int p0), .val (.int p1), .val (.int p2), .val (.int p3), .val (.int ((p0 &&& (2147483647 : Int32)) % (9 : Int32))), .val (.ref o), .val (.int tg), .val (.int (2 : Int32)), .val (.ref b121), .unset, .unset] [])) _
        refine XS.iloadN X125.here hx rfl (hb hby at_217) rfl ?_
        show Steps p.tables e below (T125.setTop (mkF m 218 #[.val (.int p0), .val (.int p1), .val (.int p2), .val (.int p3), .val (.int ((p0 &&& (2147483647 : Int32)) % (9 : Int32))), .val (.ref o), .val (.int tg), .val (.int (2 : Int32)), .val (.ref b121), .unset, .unset] [(.int p2)])) _
        refine XS.sipush X125.here hx rfl (hb hby at_218) ?_
        show Steps p.tables e below (T125.setTop (mkF m 221 #[.val (.int p0), .val (.int p1), .val (.int p2), .val (.int p3), .val (.int ((p0 &&& (2147483647 : Int32)) % (9 : Int32))), .val (.ref o), .val (.int tg), .val (.int (2 : Int32)), .val (.ref b121), .unset, .unset] [(.int (255 : Int32)), (.int p2)])) _
        refine XS.iand X125.here hx rfl (hb hby at_221) rfl ?_
        show Steps p.tables e below (T125.setTop (mkF m 222 #[.val (.int p0), .val (.int p1), .val (.int p2), .val (.int p3), .val (.int ((p0 &&& (2147483647 : Int32)) % (9 : Int32))), .val (.ref o), .val (.int tg), .val (.int (2 : Int32)), .val (.ref b121), .unset, .unset] [(.int (p2 &&& (255 : Int32)))])) _
        refine XS.iload X125.here hx rfl (hb hby at_222) rfl ?_
        exact k
      by_cases hc224 : (p2 &&& (255 : Int32)) = tg
      · have Q127 := (((F_o_tag.ext E121).other W123 (Or.inl ne_o_b121)).other W125 (Or.inl ne_o_b121))
        have Q129 := (((E_o.ext E121).wr W123).wr W125)
        obtain ⟨cq128, kq128, q128a, q128b, q128c⟩ := isOf hZ e125 Q129
        obtain ⟨_, _, ⟨T128, L128, k128, n128⟩, -, X128, ⟨Lc128, hQ128, l128, y128, z128⟩, st128⟩ := X125.virtualBack hx (y := (⟨"com/example/counterpoise/counterpoise/store/Records$Kind", "prefix", "()[B"⟩ : MethodName)) (z := (⟨"com/example/counterpoise/counterpoise/store/Records$Kind", "prefix", "()[B"⟩ : MethodName)) hown (mvT hZ (hw _ (List.mem_of_getElem? (i := 5) rfl))) (mvT hZ (hw _ (List.mem_of_getElem? (i := 6) rfl))) (notFace_of_selects (args := #[]) (mvT hZ (hw _ (List.mem_of_getElem? (i := 8) rfl)))) (mvT hZ (hw _ (List.mem_of_getElem? (i := 8) rfl))) (mvT hZ (hw _ (List.mem_of_getElem? (i := 7) rfl))) (by decide) (backOf (W := 0) (rm1 l Z a0 hw [] o tg h125 n0 (Nat.le_trans Z0 K125.1) Q127) hZ (hw _ (List.mem_of_getElem? (i := 9) rfl)) (hw _ (List.mem_of_getElem? (i := 2) rfl)) (by decide) (by decide)) q128a q128c (g := (mkF m 236 #[.val (.int p0), .val (.int p1), .val (.int p2), .val (.int p3), .val (.int ((p0 &&& (2147483647 : Int32)) % (9 : Int32))), .val (.ref o), .val (.int tg), .val (.int (2 : Int32)), .val (.ref b121), .val (.int (1 : Int32)), .unset] [(.ref o)])) rfl (by rw [hml]; rfl) (Steps.refl _) (argsL := []) (rest := []) (lenOf own_pd0 rfl) rfl (by show 2 * 0 + _ ≤ _; exact Nat.le_of_eq rfl) (hb hby at_236) (fun _ _ => ⟨rfl, e125, (by decide : 1 + 1 ≤ _), (by decide : 2 + 1 ≤ _)⟩)
        dsimp only [Pt.U, Pt.locs, Pt.cells, Pt.slots] at X128 l128 y128 z128 st128 hQ128
        subst l128 y128 z128
        obtain ⟨b_128, k_128, rfl, N128q, i128_4, i128_5, i128_6⟩ := hQ128
        have N128 := Fr.app N125 N128q
        have Q130 := (((E_o0.ext E121).wr W123).wr W125)
        have ne_o0_b_128 : o0 ≠ b_128 := Nat.ne_of_lt (Nat.lt_of_lt_of_le Q130.lt i128_5)
        have Q131 := (((E_o1.ext E121).wr W123).wr W125)
        have ne_o1_b_128 : o1 ≠ b_128 := Nat.ne_of_lt (Nat.lt_of_lt_of_le Q131.lt i128_5)
        have Q132 := (((E_o2.ext E121).wr W123).wr W125)
        have ne_o2_b_128 : o2 ≠ b_128 := Nat.ne_of_lt (Nat.lt_of_lt_of_le Q132.lt i128_5)
        have Q133 := (((E_o3.ext E121).wr W123).wr W125)
        have ne_o3_b_128 : o3 ≠ b_128 := Nat.ne_of_lt (Nat.lt_of_lt_of_le Q133.lt i128_5)
        have Q134 := (((E_o4.ext E121).wr W123).wr W125)
        have ne_o4_b_128 : o4 ≠ b_128 := Nat.ne_of_lt (Nat.lt_of_lt_of_le Q134.lt i128_5)
        have Q135 := (((E_o5.ext E121).wr W123).wr W125)
        have ne_o5_b_128 : o5 ≠ b_128 := Nat.ne_of_lt (Nat.lt_of_lt_of_le Q135.lt i128_5)
        have Q136 := (((E_o6.ext E121).wr W123).wr W125)
        have ne_o6_b_128 : o6 ≠ b_128 := Nat.ne_of_lt (Nat.lt_of_lt_of_le Q136.lt i128_5)
        have Q137 := (((E_o7.ext E121).wr W123).wr W125)
        have ne_o7_b_128 : o7 ≠ b_128 := Nat.ne_of_lt (Nat.lt_of_lt_of_le Q137.lt i128_5)
        have Q138 := (((E_o8.ext E121).wr W123).wr W125)
        have ne_o8_b_128 : o8 ≠ b_128 := Nat.ne_of_lt (Nat.lt_of_lt_of_le Q138.lt i128_5)
        have ne_o_b_128 : o ≠ b_128 := Nat.ne_of_lt (Nat.lt_of_lt_of_le Q129.lt i128_5)
        have ne_b121_b_128 : b121 ≠ b_128 := Nat.ne_of_lt (Nat.lt_of_lt_of_le V125.lt i128_5)
        have gg_b_128 : n0 ≤ b_128 := Nat.le_trans (Nat.le_trans Z0 K125.1) i128_5
        have sz_b_128 : h0.size ≤ b_128 := Nat.le_trans K125.1 i128_5
        have K128 := K125.trans i128_4 all0
        have Q139 := (Q127.keep i128_4 nin0)
        have Q140 := (V125.keep i128_4 nin0)
        have Q142 := (Q129.keep i128_4)
        obtain ⟨cq141, kq141, q141a, q141b, q141c⟩ := isOf hZ rfl Q142
        obtain ⟨_, _, ⟨T141, L141, k141, n141⟩, -, X141, ⟨Lc141, hQ141, l141, y141, z141⟩, st141⟩ := X128.virtualBack hx (y := (⟨"com/example/counterpoise/counterpoise/store/Records$Kind", "holds", "([B)Z"⟩ : MethodName)) (z := (⟨"com/example/counterpoise/counterpoise/store/Records$Kind", "holds", "([B)Z"⟩ : MethodName)) hown (mvT hZ (hw _ (List.mem_of_getElem? (i := 12) rfl))) (mvT hZ (hw _ (List.mem_of_getElem? (i := 13) rfl))) (notFace_of_selects (args := #[]) (mvT hZ (hw _ (List.mem_of_getElem? (i := 15) rfl)))) (mvT hZ (hw _ (List.mem_of_getElem? (i := 15) rfl))) (mvT hZ (hw _ (List.mem_of_getElem? (i := 14) rfl))) (by decide) (backOf (W := 0) (rm2_2 l Z a0 hw [] o b121 k121 tg (nar .byte (p2.toInt8.toInt32)) (nar .byte (p3.toInt8.toInt32)) T128.heap n0 (Nat.le_trans Z0 K128.1) Q139 Q140) hZ (hw _ (List.mem_of_getElem? (i := 16) rfl)) (hw _ (List.mem_of_getElem? (i := 2) rfl)) (by decide) (by decide)) q141a q141c (g := (mkF m 245 #[.val (.int p0), .val (.int p1), .val (.int p2), .val (.int p3), .val (.int ((p0 &&& (2147483647 : Int32)) % (9 : Int32))), .val (.ref o), .val (.int tg), .val (.int (2 : Int32)), .val (.ref b121), .val (.int (1 : Int32)), .val (.ref b_128)] [(.ref b121), (.ref o)])) rfl (by rw [hml]; rfl) (Steps.refl _) (argsL := [(.ref b121)]) (rest := []) (lenOf own_pd1 rfl) rfl (by show 2 * 0 + _ ≤ _; exact Nat.le_of_eq rfl) (hb hby at_245) (fun _ _ => ⟨rfl, rfl, (by decide : 2 + 0 ≤ _), (by decide : 3 + 0 ≤ _)⟩)
        dsimp only [Pt.U, Pt.locs, Pt.cells, Pt.slots] at X141 l141 y141 z141 st141 hQ141
        subst l141 y141 z141
        obtain ⟨rfl, N141q, e141⟩ := hQ141
        have N141 := Fr.app N128 N141q
        have hc250_143 : (own_f_rm2_2 tg (nar .byte (p2.toInt8.toInt32))) = (1 : Int32) := by unfold own_f_rm2_2; rw [if_pos ((own_bt p2 tg htg).mpr hc224)]
        obtain ⟨cq144, kq144, q144a, q144b, q144c⟩ := isOf hZ e141 Q142
        obtain ⟨_, _, ⟨T144, L144, k144, n144⟩, -, X144, ⟨Lc144, hQ144, l144, y144, z144⟩, st144⟩ := X141.virtualBack hx (y := (⟨"com/example/counterpoise/counterpoise/store/Records$Kind", "holds", "([B)Z"⟩ : MethodName)) (z := (⟨"com/example/counterpoise/counterpoise/store/Records$Kind", "holds", "([B)Z"⟩ : MethodName)) hown (mvT hZ (hw _ (List.mem_of_getElem? (i := 12) rfl))) (mvT hZ (hw _ (List.mem_of_getElem? (i := 13) rfl))) (notFace_of_selects (args := #[]) (mvT hZ (hw _ (List.mem_of_getElem? (i := 15) rfl)))) (mvT hZ (hw _ (List.mem_of_getElem? (i := 15) rfl))) (mvT hZ (hw _ (List.mem_of_getElem? (i := 14) rfl))) (by decide) (backOf (W := 0) (rm2_1 l Z a0 hw [] o b_128 k_128 tg (nar .byte tg) T128.heap n0 (Nat.le_trans Z0 K128.1) Q139 i128_6) hZ (hw _ (List.mem_of_getElem? (i := 16) rfl)) (hw _ (List.mem_of_getElem? (i := 2) rfl)) (by decide) (by decide)) q144a q144c (g := (mkF m 257 #[.val (.int p0), .val (.int p1), .val (.int p2), .val (.int p3), .val (.int ((p0 &&& (2147483647 : Int32)) % (9 : Int32))), .val (.ref o), .val (.int tg), .val (.int (2 : Int32)), .val (.ref b121), .val (.int (1 : Int32)), .val (.ref b_128)] [(.ref b_128), (.ref o)])) rfl (by rw [hml]; rfl) (Steps.refl _) (argsL := [(.ref b_128)]) (rest := []) (lenOf own_pd1 rfl) rfl (by show 2 * 0 + _ ≤ _; exact Nat.le_of_eq rfl) (hb hby at_257) (fun _ _ => ⟨rfl, e141, (by decide : 2 + 0 ≤ _), (by decide : 3 + 0 ≤ _)⟩)
        dsimp only [Pt.U, Pt.locs, Pt.cells, Pt.slots] at X144 l144 y144 z144 st144 hQ144
        subst l144 y144 z144
        obtain ⟨rfl, N144q, e144⟩ := hQ144
        have N144 := Fr.app N141 N144q
        have hc260_145 : ¬ ((own_f_rm2_1 tg (nar .byte tg)) = (0 : Int32)) := by unfold own_f_rm2_1; rw [if_pos (own_nt tg htg)]; decide
        obtain ⟨fs, hr, hrun, hended, hW, hsame⟩ := X144.leave (v := some (.int (1 : Int32))) (fun h => by rw [Bd.returns] at h; cases h)
        refine ⟨_, _, pre126 _ ?_, hrun, hended, _, _, rfl, ?_, ⟨_, rfl⟩, hW, hsame.mono (by decide) (by decide)⟩
        · show Steps p.tables e below (T125.setTop (mkF m 224 #[.val (.int p0), .val (.int p1), .val (.int p2), .val (.int p3), .val (.int ((p0 &&& (2147483647 : Int32)) % (9 : Int32))), .val (.ref o), .val (.int tg), .val (.int (2 : Int32)), .val (.ref b121), .unset, .unset] [(.int tg), (.int (p2 &&& (255 : Int32)))])) _
          refine XS.icmpNo X125.here hx rfl (hb hby at_224) rfl (teq hc224).2 ?_
          show Steps p.tables e below (T125.setTop (mkF m 227 #[.val (.int p0), .val (.int p1), .val (.int p2), .val (.int p3), .val (.int ((p0 &&& (2147483647 : Int32)) % (9 : Int32))), .val (.ref o), .val (.int tg), .val (.int (2 : Int32)), .val (.ref b121), .unset, .unset] [])) _
          refine XS.iconst X125.here hx rfl (hb hby at_227) ?_
          show Steps p.tables e below (T125.setTop (mkF m 228 #[.val (.int p0), .val (.int p1), .val (.int p2), .val (.int p3), .val (.int ((p0 &&& (2147483647 : Int32)) % (9 : Int32))), .val (.ref o), .val (.int tg), .val (.int (2 : Int32)), .val (.ref b121), .unset, .unset] [(.int (1 : Int32))])) _
          refine XS.goto X125.here hx rfl (pc0 := 228) (pc' := 232) rfl (hb hby at_228) (by decide) (by decide) ?_
          show Steps p.tables e below (T125.setTop (mkF m 232 #[.val (.int p0), .val (.int p1), .val (.int p2), .val (.int p3), .val (.int ((p0 &&& (2147483647 : Int32)) % (9 : Int32))), .val (.ref o), .val (.int tg), .val (.int (2 : Int32)), .val (.ref b121), .unset, .unset] [(.int (1 : Int32))])) _
          refine XS.istore X125.here hx rfl (hb hby at_232) rfl (l' := #[.val (.int p0), .val (.int p1), .val (.int p2), .val (.int p3), .val (.int ((p0 &&& (2147483647 : Int32)) % (9 : Int32))), .val (.ref o), .val (.int tg), .val (.int (2 : Int32)), .val (.ref b121), .val (.int (1 : Int32)), .unset]) rfl ?_
          show Steps p.tables e below (T125.setTop (mkF m 234 #[.val (.int p0), .val (.int p1), .val (.int p2), .val (.int p3), .val (.int ((p0 &&& (2147483647 : Int32)) % (9 : Int32))), .val (.ref o), .val (.int tg), .val (.int (2 : Int32)), .val (.ref b121), .val (.int (1 : Int32)), .unset] [])) _
          refine XS.aload X125.here hx rfl (hb hby at_234) rfl rfl ?_
          show Steps p.tables e below (T125.setTop (mkF m 236 #[.val (.int p0), .val (.int p1), .val (.int p2), .val (.int p3), .val (.int ((p0 &&& (2147483647 : Int32)) % (9 : Int32))), .val (.ref o), .val (.int tg), .val (.int (2 : Int32)), .val (.ref b121), .val (.int (1 : Int32)), .unset] [(.ref o)])) _
          refine st128.trans ?_
          show Steps p.tables e below (T128.setTop (mkF m 239 #[.val (.int p0), .val (.int p1), .val (.int p2), .val (.int p3), .val (.int ((p0 &&& (2147483647 : Int32)) % (9 : Int32))), .val (.ref o), .val (.int tg), .val (.int (2 : Int32)), .val (.ref b121), .val (.int (1 : Int32)), .unset] [(.ref b_128)])) _
          refine XS.astore X128.here hx rfl (hb hby at_239) rfl rfl (l' := #[.val (.int p0), .val (.int p1), .val (.int p2), .val (.int p3), .val (.int ((p0 &&& (2147483647 : Int32)) % (9 : Int32))), .val (.ref o), .val (.int tg), .val (.int (2 : Int32)), .val (.ref b121), .val (.int (1 : Int32)), .val (.ref b_128)]) rfl ?_
          show Steps p.tables e below (T128.setTop (mkF m 241 #[.val (.int p0), .val (.int p1), .val (.int p2), .val (.int p3), .val (.int ((p0 &&& (2147483647 : Int32)) % (9 : Int32))), .val (.ref o), .val (.int tg), .val (.int (2 : Int32)), .val (.ref b121), .val (.int (1 : Int32)), .val (.ref b_128)] [])) _
          refine XS.aload X128.here hx rfl (hb hby at_241) rfl rfl ?_
          show Steps p.tables e below (T128.setTop (mkF m 243 #[.val (.int p0), .val (.int p1), .val (.int p2), .val (.int p3), .val (.int ((p0 &&& (2147483647 : Int32)) % (9 : Int32))), .val (.ref o), .val (.int tg), .val (.int (2 : Int32)), .val (.ref b121), .val (.int (1 : Int32)), .val (.ref b_128)] [(.ref o)])) _
          refine XS.aload X128.here hx rfl (hb hby at_243) rfl rfl ?_
          show Steps p.tables e below (T128.setTop (mkF m 245 #[.val (.int p0), .val (.int p1), .val (.int p2), .val (.int p3), .val (.int ((p0 &&& (2147483647 : Int32)) % (9 : Int32))), .val (.ref o), .val (.int tg), .val (.int (2 : Int32)), .val (.ref b121), .val (.int (1 : Int32)), .val (.ref b_128)] [(.ref b121), (.ref o)])) _
          refine st141.trans ?_
          show Steps p.tables e below (T141.setTop (mkF m 248 #[.val (.int p0), .val (.int p1), .val (.int p2), .val (.int p3), .val (.int ((p0 &&& (2147483647 : Int32)) % (9 : Int32))), .val (.ref o), .val (.int tg), .val (.int (2 : Int32)), .val (.ref b121), .val (.int (1 : Int32)), .val (.ref b_128)] [(.int (own_f_rm2_2 tg (nar .byte (p2.toInt8.toInt32))))])) _
          refine XS.iload X141.here hx rfl (hb hby at_248) rfl ?_
          show Steps p.tables e below (T141.setTop (mkF m 250 #[.val (.int p0), .val (.int p1), .val (.int p2), .val (.int p3), .val (.int ((p0 &&& (2147483647 : Int32)) % (9 : Int32))), .val (.ref o), .val (.int tg), .val (.int (2 : Int32)), .val (.ref b121), .val (.int (1 : Int32)), .val (.ref b_128)] [(.int (1 : Int32)), (.int (own_f_rm2_2 tg (nar .byte (p2.toInt8.toInt32))))])) _
          refine XS.icmpNo X141.here hx rfl (hb hby at_250) rfl (teq hc250_143).2 ?_
          show Steps p.tables e below (T141.setTop (mkF m 253 #[.val (.int p0), .val (.int p1), .val (.int p2), .val (.int p3), .val (.int ((p0 &&& (2147483647 : Int32)) % (9 : Int32))), .val (.ref o), .val (.int tg), .val (.int (2 : Int32)), .val (.ref b121), .val (.int (1 : Int32)), .val (.ref b_128)] [])) _
          refine XS.aload X141.here hx rfl (hb hby at_253) rfl rfl ?_
          show Steps p.tables e below (T141.setTop (mkF m 255 #[.val (.int p0), .val (.int p1), .val (.int p2), .val (.int p3), .val (.int ((p0 &&& (2147483647 : Int32)) % (9 : Int32))), .val (.ref o), .val (.int tg), .val (.int (2 : Int32)), .val (.ref b121), .val (.int (1 : Int32)), .val (.ref b_128)] [(.ref o)])) _
          refine XS.aload X141.here hx rfl (hb hby at_255) rfl rfl ?_
          show Steps p.tables e below (T141.setTop (mkF m 257 #[.val (.int p0), .val (.int p1), .val (.int p2), .val (.int p3), .val (.int ((p0 &&& (2147483647 : Int32)) % (9 : Int32))), .val (.ref o), .val (.int tg), .val (.int (2 : Int32)), .val (.ref b121), .val (.int (1 : Int32)), .val (.ref b_128)] [(.ref b_128), (.ref o)])) _
          refine st144.trans ?_
          show Steps p.tables e below (T144.setTop (mkF m 260 #[.val (.int p0), .val (.int p1), .val (.int p2), .val (.int p3), .val (.int ((p0 &&& (2147483647 : Int32)) % (9 : Int32))), .val (.ref o), .val (.int tg), .val (.int (2 : Int32)), .val (.ref b121), .val (.int (1 : Int32)), .val (.ref b_128)] [(.int (own_f_rm2_1 tg (nar .byte tg)))])) _
          refine XS.ifNo X144.here hx rfl (hb hby at_260) rfl ((if0 _ _).trans (feq hc260_145).1) ?_
          show Steps p.tables e below (T144.setTop (mkF m 263 #[.val (.int p0), .val (.int p1), .val (.int p2), .val (.int p3), .val (.int ((p0 &&& (2147483647 : Int32)) % (9 : Int32))), .val (.ref o), .val (.int tg), .val (.int (2 : Int32)), .val (.ref b121), .val (.int (1 : Int32)), .val (.ref b_128)] [])) _
          refine XS.iconst X144.here hx rfl (hb hby at_263) ?_
          show Steps p.tables e below (T144.setTop (mkF m 264 #[.val (.int p0), .val (.int p1), .val (.int p2), .val (.int p3), .val (.int ((p0 &&& (2147483647 : Int32)) % (9 : Int32))), .val (.ref o), .val (.int tg), .val (.int (2 : Int32)), .val (.ref b121), .val (.int (1 : Int32)), .val (.ref b_128)] [(.int (1 : Int32))])) _
          refine XS.goto X144.here hx rfl (pc0 := 264) (pc' := 268) rfl (hb hby at_264) (by decide) (by decide) ?_
          show Steps p.tables e below (T144.setTop (mkF m 268 #[.val (.int p0), .val (.int p1), .val (.int p2), .val (.int p3), .val (.int ((p0 &&& (2147483647 : Int32)) % (9 : Int32))), .val (.ref o), .val (.int tg), .val (.int (2 : Int32)), .val (.ref b121), .val (.int (1 : Int32)), .val (.ref b_128)] [(.int (1 : Int32))])) _
          exact retN X144 hx (t := .boolean) Bd.returns (by simp) (hb hby at_268) hr
        · show Q0 Z p0 p1 p2 p3 o0 o1 o2 o3 o4 o5 o6 o7 o8 h0 n0 _ T144.heap _
          rw [e144]
          exact ⟨rfl, N144⟩
      · have Q146 := (((F_o_tag.ext E121).other W123 (Or.inl ne_o_b121)).other W125 (Or.inl ne_o_b121))
        have Q148 := (((E_o.ext E121).wr W123).wr W125)
        obtain ⟨cq147, kq147, q147a, q147b, q147c⟩ := isOf hZ e125 Q148
        obtain ⟨_, _, ⟨T147, L147, k147, n147⟩, -, X147, ⟨Lc147, hQ147, l147, y147, z147⟩, st147⟩ := X125.virtualBack hx (y := (⟨"com/example/counterpoise/counterpoise/store/Records$Kind", "prefix", "()[B"⟩ : MethodName)) (z := (⟨"com/example/counterpoise/counterpoise/store/Records$Kind", "prefix", "()[B"⟩ : MethodName)) hown (mvT hZ (hw _ (List.mem_of_getElem? (i := 5) rfl))) (mvT hZ (hw _ (List.mem_of_getElem? (i := 6) rfl))) (notFace_of_selects (args := #[]) (mvT hZ (hw _ (List.mem_of_getElem? (i := 8) rfl)))) (mvT hZ (hw _ (List.mem_of_getElem? (i := 8) rfl))) (mvT hZ (hw _ (List.mem_of_getElem? (i := 7) rfl))) (by decide) (backOf (W := 0) (rm1 l Z a0 hw [] o tg h125 n0 (Nat.le_trans Z0 K125.1) Q146) hZ (hw _ (List.mem_of_getElem? (i := 9) rfl)) (hw _ (List.mem_of_getElem? (i := 2) rfl)) (by decide) (by decide)) q147a q147c (g := (mkF m 236 #[.val (.int p0), .val (.int p1), .val (.int p2), .val (.int p3), .val (.int ((p0 &&& (2147483647 : Int32)) % (9 : Int32))), .val (.ref o), .val (.int tg), .val (.int (2 : Int32)), .val (.ref b121), .val (.int (0 : Int32)), .unset] [(.ref o)])) rfl (by rw [hml]; rfl) (Steps.refl _) (argsL := []) (rest := []) (lenOf own_pd0 rfl) rfl (by show 2 * 0 + _ ≤ _; exact Nat.le_of_eq rfl) (hb hby at_236) (fun _ _ => ⟨rfl, e125, (by decide : 1 + 1 ≤ _), (by decide : 2 + 1 ≤ _)⟩)
        dsimp only [Pt.U, Pt.locs, Pt.cells, Pt.slots] at X147 l147 y147 z147 st147 hQ147
        subst l147 y147 z147
        obtain ⟨b_147, k_147, rfl, N147q, i147_4, i147_5, i147_6⟩ := hQ147
        have N147 := Fr.app N125 N147q
        have Q149 := (((E_o0.ext E121).wr W123).wr W125)
        have ne_o0_b_147 : o0 ≠ b_147 := Nat.ne_of_lt (Nat.lt_of_lt_of_le Q149.lt i147_5)
        have Q150 := (((E_o1.ext E121).wr W123).wr W125)
        have ne_o1_b_147 : o1 ≠ b_147 := Nat.ne_of_lt (Nat.lt_of_lt_of_le Q150.lt i147_5)
        have Q151 := (((E_o2.ext E121).wr W123).wr W125)
        have ne_o2_b_147 : o2 ≠ b_147 := Nat.ne_of_lt (Nat.lt_of_lt_of_le Q151.lt i147_5)
        have Q152 := (((E_o3.ext E121).wr W123).wr W125)
        have ne_o3_b_147 : o3 ≠ b_147 := Nat.ne_of_lt (Nat.lt_of_lt_of_le Q152.lt i147_5)
        have Q153 := (((E_o4.ext E121).wr W123).wr W125)
        have ne_o4_b_147 : o4 ≠ b_147 := Nat.ne_of_lt (Nat.lt_of_lt_of_le Q153.lt i147_5)
        have Q154 := (((E_o5.ext E121).wr W123).wr W125)
        have ne_o5_b_147 : o5 ≠ b_147 := Nat.ne_of_lt (Nat.lt_of_lt_of_le Q154.lt i147_5)
        have Q155 := (((E_o6.ext E121).wr W123).wr W125)
        have ne_o6_b_147 : o6 ≠ b_147 := Nat.ne_of_lt (Nat.lt_of_lt_of_le Q155.lt i147_5)
        have Q156 := (((E_o7.ext E121).wr W123).wr W125)
        have ne_o7_b_147 : o7 ≠ b_147 := Nat.ne_of_lt (Nat.lt_of_lt_of_le Q156.lt i147_5)
        have Q157 := (((E_o8.ext E121).wr W123).wr W125)
        have ne_o8_b_147 : o8 ≠ b_147 := Nat.ne_of_lt (Nat.lt_of_lt_of_le Q157.lt i147_5)
        have ne_o_b_147 : o ≠ b_147 := Nat.ne_of_lt (Nat.lt_of_lt_of_le Q148.lt i147_5)
        have ne_b121_b_147 : b121 ≠ b_147 := Nat.ne_of_lt (Nat.lt_of_lt_of_le V125.lt i147_5)
        have gg_b_147 : n0 ≤ b_147 := Nat.le_trans (Nat.le_trans Z0 K125.1) i147_5
        have sz_b_147 : h0.size ≤ b_147 := Nat.le_trans K125.1 i147_5
        have K147 := K125.trans i147_4 all0
        have Q158 := (Q146.keep i147_4 nin0)
        have Q159 := (V125.keep i147_4 nin0)
        have Q161 := (Q148.keep i147_4)
        obtain ⟨cq160, kq160, q160a, q160b, q160c⟩ := isOf hZ rfl Q161
        obtain ⟨_, _, ⟨T160, L160, k160, n160⟩, -, X160, ⟨Lc160, hQ160, l160, y160, z160⟩, st160⟩ := X147.virtualBack hx (y := (⟨"com/example/counterpoise/counterpoise/store/Records$Kind", "holds", "([B)Z"⟩ : MethodName)) (z := (⟨"com/example/counterpoise/counterpoise/store/Records$Kind", "holds", "([B)Z"⟩ : MethodName)) hown (mvT hZ (hw _ (List.mem_of_getElem? (i := 12) rfl))) (mvT hZ (hw _ (List.mem_of_getElem? (i := 13) rfl))) (notFace_of_selects (args := #[]) (mvT hZ (hw _ (List.mem_of_getElem? (i := 15) rfl)))) (mvT hZ (hw _ (List.mem_of_getElem? (i := 15) rfl))) (mvT hZ (hw _ (List.mem_of_getElem? (i := 14) rfl))) (by decide) (backOf (W := 0) (rm2_2 l Z a0 hw [] o b121 k121 tg (nar .byte (p2.toInt8.toInt32)) (nar .byte (p3.toInt8.toInt32)) T147.heap n0 (Nat.le_trans Z0 K147.1) Q158 Q159) hZ (hw _ (List.mem_of_getElem? (i := 16) rfl)) (hw _ (List.mem_of_getElem? (i := 2) rfl)) (by decide) (by decide)) q160a q160c (g := (mkF m 245 #[.val (.int p0), .val (.int p1), .val (.int p2), .val (.int p3), .val (.int ((p0 &&& (2147483647 : Int32)) % (9 : Int32))), .val (.ref o), .val (.int tg), .val (.int (2 : Int32)), .val (.ref b121), .val (.int (0 : Int32)), .val (.ref b_147)] [(.ref b121), (.ref o)])) rfl (by rw [hml]; rfl) (Steps.refl _) (argsL := [(.ref b121)]) (rest := []) (lenOf own_pd1 rfl) rfl (by show 2 * 0 + _ ≤ _; exact Nat.le_of_eq rfl) (hb hby at_245) (fun _ _ => ⟨rfl, rfl, (by decide : 2 + 0 ≤ _), (by decide : 3 + 0 ≤ _)⟩)
        dsimp only [Pt.U, Pt.locs, Pt.cells, Pt.slots] at X160 l160 y160 z160 st160 hQ160
        subst l160 y160 z160
        obtain ⟨rfl, N160q, e160⟩ := hQ160
        have N160 := Fr.app N147 N160q
        have hc250_162 : (own_f_rm2_2 tg (nar .byte (p2.toInt8.toInt32))) = (0 : Int32) := by unfold own_f_rm2_2; rw [if_neg (fun q => hc224 ((own_bt p2 tg htg).mp q))]
        obtain ⟨cq163, kq163, q163a, q163b, q163c⟩ := isOf hZ e160 Q161
        obtain ⟨_, _, ⟨T163, L163, k163, n163⟩, -, X163, ⟨Lc163, hQ163, l163, y163, z163⟩, st163⟩ := X160.virtualBack hx (y := (⟨"com/example/counterpoise/counterpoise/store/Records$Kind", "holds", "([B)Z"⟩ : MethodName)) (z := (⟨"com/example/counterpoise/counterpoise/store/Records$Kind", "holds", "([B)Z"⟩ : MethodName)) hown (mvT hZ (hw _ (List.mem_of_getElem? (i := 12) rfl))) (mvT hZ (hw _ (List.mem_of_getElem? (i := 13) rfl))) (notFace_of_selects (args := #[]) (mvT hZ (hw _ (List.mem_of_getElem? (i := 15) rfl)))) (mvT hZ (hw _ (List.mem_of_getElem? (i := 15) rfl))) (mvT hZ (hw _ (List.mem_of_getElem? (i := 14) rfl))) (by decide) (backOf (W := 0) (rm2_1 l Z a0 hw [] o b_147 k_147 tg (nar .byte tg) T147.heap n0 (Nat.le_trans Z0 K147.1) Q158 i147_6) hZ (hw _ (List.mem_of_getElem? (i := 16) rfl)) (hw _ (List.mem_of_getElem? (i := 2) rfl)) (by decide) (by decide)) q163a q163c (g := (mkF m 257 #[.val (.int p0), .val (.int p1), .val (.int p2), .val (.int p3), .val (.int ((p0 &&& (2147483647 : Int32)) % (9 : Int32))), .val (.ref o), .val (.int tg), .val (.int (2 : Int32)), .val (.ref b121), .val (.int (0 : Int32)), .val (.ref b_147)] [(.ref b_147), (.ref o)])) rfl (by rw [hml]; rfl) (Steps.refl _) (argsL := [(.ref b_147)]) (rest := []) (lenOf own_pd1 rfl) rfl (by show 2 * 0 + _ ≤ _; exact Nat.le_of_eq rfl) (hb hby at_257) (fun _ _ => ⟨rfl, e160, (by decide : 2 + 0 ≤ _), (by decide : 3 + 0 ≤ _)⟩)
        dsimp only [Pt.U, Pt.locs, Pt.cells, Pt.slots] at X163 l163 y163 z163 st163 hQ163
        subst l163 y163 z163
        obtain ⟨rfl, N163q, e163⟩ := hQ163
        have N163 := Fr.app N160 N163q
        have hc260_164 : ¬ ((own_f_rm2_1 tg (nar .byte tg)) = (0 : Int32)) := by unfold own_f_rm2_1; rw [if_pos (own_nt tg htg)]; decide
        obtain ⟨fs, hr, hrun, hended, hW, hsame⟩ := X163.leave (v := some (.int (1 : Int32))) (fun h => by rw [Bd.returns] at h; cases h)
        refine ⟨_, _, pre126 _ ?_, hrun, hended, _, _, rfl, ?_, ⟨_, rfl⟩, hW, hsame.mono (by decide) (by decide)⟩
        · show Steps p.tables e below (T125.setTop (mkF m 224 #[.val (.int p0), .val (.int p1), .val (.int p2), .val (.int p3), .val (.int ((p0 &&& (2147483647 : Int32)) % (9 : Int32))), .val (.ref o), .val (.int tg), .val (.int (2 : Int32)), .val (.ref b121), .unset, .unset] [(.int tg), (.int (p2 &&& (255 : Int32)))])) _
          refine XS.icmpYes X125.here hx rfl (pc0 := 224) (pc' := 231) rfl (hb hby at_224) rfl (feq hc224).2 (by decide) (by decide) ?_
          show Steps p.tables e below (T125.setTop (mkF m 231 #[.val (.int p0), .val (.int p1), .val (.int p2), .val (.int p3), .val (.int ((p0 &&& (2147483647 : Int32)) % (9 : Int32))), .val (.ref o), .val (.int tg), .val (.int (2 : Int32)), .val (.ref b121), .unset, .unset] [])) _
          refine XS.iconst X125.here hx rfl (hb hby at_231) ?_
          show Steps p.tables e below (T125.setTop (mkF m 232 #[.val (.int p0), .val (.int p1), .val (.int p2), .val (.int p3), .val (.int ((p0 &&& (2147483647 : Int32)) % (9 : Int32))), .val (.ref o), .val (.int tg), .val (.int (2 : Int32)), .val (.ref b121), .unset, .unset] [(.int (0 : Int32))])) _
          refine XS.istore X125.here hx rfl (hb hby at_232) rfl (l' := #[.val (.int p0), .val (.int p1), .val (.int p2), .val (.int p3), .val (.int ((p0 &&& (2147483647 : Int32)) % (9 : Int32))), .val (.ref o), .val (.int tg), .val (.int (2 : Int32)), .val (.ref b121), .val (.int (0 : Int32)), .unset]) rfl ?_
          show Steps p.tables e below (T125.setTop (mkF m 234 #[.val (.int p0), .val (.int p1), .val (.int p2), .val (.int p3), .val (.int ((p0 &&& (2147483647 : Int32)) % (9 : Int32))), .val (.ref o), .val (.int tg), .val (.int (2 : Int32)), .val (.ref b121), .val (.int (0 : Int32)), .unset] [])) _
          refine XS.aload X125.here hx rfl (hb hby at_234) rfl rfl ?_
          show Steps p.tables e below (T125.setTop (mkF m 236 #[.val (.int p0), .val (.int p1), .val (.int p2), .val (.int p3), .val (.int ((p0 &&& (2147483647 : Int32)) % (9 : Int32))), .val (.ref o), .val (.int tg), .val (.int (2 : Int32)), .val (.ref b121), .val (.int (0 : Int32)), .unset] [(.ref o)])) _
          refine st147.trans ?_
          show Steps p.tables e below (T147.setTop (mkF m 239 #[.val (.int p0), .val (.int p1), .val (.int p2), .val (.int p3), .val (.int ((p0 &&& (2147483647 : Int32)) % (9 : Int32))), .val (.ref o), .val (.int tg), .val (.int (2 : Int32)), .val (.ref b121), .val (.int (0 : Int32)), .unset] [(.ref b_147)])) _
          refine XS.astore X147.here hx rfl (hb hby at_239) rfl rfl (l' := #[.val (.int p0), .val (.int p1), .val (.int p2), .val (.int p3), .val (.int ((p0 &&& (2147483647 : Int32)) % (9 : Int32))), .val (.ref o), .val (.int tg), .val (.int (2 : Int32)), .val (.ref b121), .val (.int (0 : Int32)), .val (.ref b_147)]) rfl ?_
          show Steps p.tables e below (T147.setTop (mkF m 241 #[.val (.int p0), .val (.int p1), .val (.int p2), .val (.int p3), .val (.int ((p0 &&& (2147483647 : Int32)) % (9 : Int32))), .val (.ref o), .val (.int tg), .val (.int (2 : Int32)), .val (.ref b121), .val (.int (0 : Int32)), .val (.ref b_147)] [])) _
          refine XS.aload X147.here hx rfl (hb hby at_241) rfl rfl ?_
          show Steps p.tables e below (T147.setTop (mkF m 243 #[.val (.int p0), .val (.int p1), .val (.int p2), .val (.int p3), .val (.int ((p0 &&& (2147483647 : Int32)) % (9 : Int32))), .val (.ref o), .val (.int tg), .val (.int (2 : Int32)), .val (.ref b121), .val (.int (0 : Int32)), .val (.ref b_147)] [(.ref o)])) _
          refine XS.aload X147.here hx rfl (hb hby at_243) rfl rfl ?_
          show Steps p.tables e below (T147.setTop (mkF m 245 #[.val (.int p0), .val (.int p1), .val (.int p2), .val (.int p3), .val (.int ((p0 &&& (2147483647 : Int32)) % (9 : Int32))), .val (.ref o), .val (.int tg), .val (.int (2 : Int32)), .val (.ref b121), .val (.int (0 : Int32)), .val (.ref b_147)] [(.ref b121), (.ref o)])) _
          refine st160.trans ?_
          show Steps p.tables e below (T160.setTop (mkF m 248 #[.val (.int p0), .val (.int p1), .val (.int p2), .val (.int p3), .val (.int ((p0 &&& (2147483647 : Int32)) % (9 : Int32))), .val (.ref o), .val (.int tg), .val (.int (2 : Int32)), .val (.ref b121), .val (.int (0 : Int32)), .val (.ref b_147)] [(.int (own_f_rm2_2 tg (nar .byte (p2.toInt8.toInt32))))])) _
          refine XS.iload X160.here hx rfl (hb hby at_248) rfl ?_
          show Steps p.tables e below (T160.setTop (mkF m 250 #[.val (.int p0), .val (.int p1), .val (.int p2), .val (.int p3), .val (.int ((p0 &&& (2147483647 : Int32)) % (9 : Int32))), .val (.ref o), .val (.int tg), .val (.int (2 : Int32)), .val (.ref b121), .val (.int (0 : Int32)), .val (.ref b_147)] [(.int (0 : Int32)), (.int (own_f_rm2_2 tg (nar .byte (p2.toInt8.toInt32))))])) _
          refine XS.icmpNo X160.here hx rfl (hb hby at_250) rfl (teq hc250_162).2 ?_
          show Steps p.tables e below (T160.setTop (mkF m 253 #[.val (.int p0), .val (.int p1), .val (.int p2), .val (.int p3), .val (.int ((p0 &&& (2147483647 : Int32)) % (9 : Int32))), .val (.ref o), .val (.int tg), .val (.int (2 : Int32)), .val (.ref b121), .val (.int (0 : Int32)), .val (.ref b_147)] [])) _
          refine XS.aload X160.here hx rfl (hb hby at_253) rfl rfl ?_
          show Steps p.tables e below (T160.setTop (mkF m 255 #[.val (.int p0), .val (.int p1), .val (.int p2), .val (.int p3), .val (.int ((p0 &&& (2147483647 : Int32)) % (9 : Int32))), .val (.ref o), .val (.int tg), .val (.int (2 : Int32)), .val (.ref b121), .val (.int (0 : Int32)), .val (.ref b_147)] [(.ref o)])) _
          refine XS.aload X160.here hx rfl (hb hby at_255) rfl rfl ?_
          show Steps p.tables e below (T160.setTop (mkF m 257 #[.val (.int p0), .val (.int p1), .val (.int p2), .val (.int p3), .val (.int ((p0 &&& (2147483647 : Int32)) % (9 : Int32))), .val (.ref o), .val (.int tg), .val (.int (2 : Int32)), .val (.ref b121), .val (.int (0 : Int32)), .val (.ref b_147)] [(.ref b_147), (.ref o)])) _
          refine st163.trans ?_
          show Steps p.tables e below (T163.setTop (mkF m 260 #[.val (.int p0), .val (.int p1), .val (.int p2), .val (.int p3), .val (.int ((p0 &&& (2147483647 : Int32)) % (9 : Int32))), .val (.ref o), .val (.int tg), .val (.int (2 : Int32)), .val (.ref b121), .val (.int (0 : Int32)), .val (.ref b_147)] [(.int (own_f_rm2_1 tg (nar .byte tg)))])) _
          refine XS.ifNo X163.here hx rfl (hb hby at_260) rfl ((if0 _ _).trans (feq hc260_164).1) ?_
          show Steps p.tables e below (T163.setTop (mkF m 263 #[.val (.int p0), .val (.int p1), .val (.int p2), .val (.int p3), .val (.int ((p0 &&& (2147483647 : Int32)) % (9 : Int32))), .val (.ref o), .val (.int tg), .val (.int (2 : Int32)), .val (.ref b121), .val (.int (0 : Int32)), .val (.ref b_147)] [])) _
          refine XS.iconst X163.here hx rfl (hb hby at_263) ?_
          show Steps p.tables e below (T163.setTop (mkF m 264 #[.val (.int p0), .val (.int p1), .val (.int p2), .val (.int p3), .val (.int ((p0 &&& (2147483647 : Int32)) % (9 : Int32))), .val (.ref o), .val (.int tg), .val (.int (2 : Int32)), .val (.ref b121), .val (.int (0 : Int32)), .val (.ref b_147)] [(.int (1 : Int32))])) _
          refine XS.goto X163.here hx rfl (pc0 := 264) (pc' := 268) rfl (hb hby at_264) (by decide) (by decide) ?_
          show Steps p.tables e below (T163.setTop (mkF m 268 #[.val (.int p0), .val (.int p1), .val (.int p2), .val (.int p3), .val (.int ((p0 &&& (2147483647 : Int32)) % (9 : Int32))), .val (.ref o), .val (.int tg), .val (.int (2 : Int32)), .val (.ref b121), .val (.int (0 : Int32)), .val (.ref b_147)] [(.int (1 : Int32))])) _
          exact retN X163 hx (t := .boolean) Bd.returns (by simp) (hb hby at_268) hr
        · show Q0 Z p0 p1 p2 p3 o0 o1 o2 o3 o4 o5 o6 o7 o8 h0 n0 _ T163.heap _
          rw [e163]
          exact ⟨rfl, N163⟩
    · obtain ⟨T165, h165, k165, X165, e165, E165, A165, st165⟩ := newP XJ hx hZ (hw _ (List.mem_of_getElem? (i := 4) rfl)) eJ (g := (mkF m 170 #[.val (.int p0), .val (.int p1), .val (.int p2), .val (.int p3), .val (.int ((p0 &&& (2147483647 : Int32)) % (9 : Int32))), .val (.ref o), .val (.int tg), .val (.int (3 : Int32)), .unset, .unset, .unset] [(.int (3 : Int32))])) rfl (hb hby at_170) rfl (by decide) (cap := 3) (by decide) (by decide) (by decide) (by decide)
      obtain ⟨b165, g165⟩ : ∃ z, z = h0.size := ⟨_, rfl⟩
      rw [← g165] at A165 st165
      have ne_o0_b165 : o0 ≠ b165 := Nat.ne_of_lt (Nat.lt_of_lt_of_le E_o0.lt (Nat.le_of_eq g165.symm))
      have ne_o1_b165 : o1 ≠ b165 := Nat.ne_of_lt (Nat.lt_of_lt_of_le E_o1.lt (Nat.le_of_eq g165.symm))
      have ne_o2_b165 : o2 ≠ b165 := Nat.ne_of_lt (Nat.lt_of_lt_of_le E_o2.lt (Nat.le_of_eq g165.symm))
      have ne_o3_b165 : o3 ≠ b165 := Nat.ne_of_lt (Nat.lt_of_lt_of_le E_o3.lt (Nat.le_of_eq g165.symm))
      have ne_o4_b165 : o4 ≠ b165 := Nat.ne_of_lt (Nat.lt_of_lt_of_le E_o4.lt (Nat.le_of_eq g165.symm))
      have ne_o5_b165 : o5 ≠ b165 := Nat.ne_of_lt (Nat.lt_of_lt_of_le E_o5.lt (Nat.le_of_eq g165.symm))
      have ne_o6_b165 : o6 ≠ b165 := Nat.ne_of_lt (Nat.lt_of_lt_of_le E_o6.lt (Nat.le_of_eq g165.symm))
      have ne_o7_b165 : o7 ≠ b165 := Nat.ne_of_lt (Nat.lt_of_lt_of_le E_o7.lt (Nat.le_of_eq g165.symm))
      have ne_o8_b165 : o8 ≠ b165 := Nat.ne_of_lt (Nat.lt_of_lt_of_le E_o8.lt (Nat.le_of_eq g165.symm))
      have ne_o_b165 : o ≠ b165 := Nat.ne_of_lt (Nat.lt_of_lt_of_le E_o.lt (Nat.le_of_eq g165.symm))
      have gg_b165 : n0 ≤ b165 := Nat.le_trans (Nat.le_trans Z0 K0.1) (Nat.le_of_eq g165.symm)
      have sz_b165 : h0.size ≤ b165 := Nat.le_trans K0.1 (Nat.le_of_eq g165.symm)
      have K165 := K0.ext E165
      have V165 : Arv Z h165 b165 k165 .byte (3 : Int32) [(.int (0 : Int32)), (.int (0 : Int32)), (.int (0 : Int32))] (.int (0 : Int32)) := (Arv.new A165 (by decide)).pad (pad_rep [] (.int (0 : Int32)) 3)
      obtain ⟨cl166, Ar166, q166, S166, M166, H166, G166⟩ := id V165
      have hin166 : ¬ ((0 : Int32) < 0 ∨ cl166.slots.size ≤ ((0 : Int32)).toNatClampNeg) := inb_of S166 ⟨by decide, by decide⟩
      obtain ⟨T167, h167, X167, e167, W167, st167⟩ := stB X165 hx hZ e165 Ar166 (j := (0 : Int32)) hin166 (g := (mkF m 184 #[.val (.int p0), .val (.int p1), .val (.int p2), .val (.int p3), .val (.int ((p0 &&& (2147483647 : Int32)) % (9 : Int32))), .val (.ref o), .val (.int tg), .val (.int (3 : Int32)), .val (.ref b165), .unset, .unset] [(.int (p2.toInt8.toInt32)), (.int (0 : Int32)), (.ref b165)])) rfl rfl (hb hby at_184)
      have V167 : Arv Z h167 b165 k165 .byte (3 : Int32) [(.int (nar .byte (p2.toInt8.toInt32))), (.int (0 : Int32)), (.int (0 : Int32))] (.int (0 : Int32)) := Arv.set Ar166 q166 S166 M166 H166 G166 (fits_nar_byte _) W167 0 rfl (Nat.le_of_ble_eq_true rfl)
      have K167 := K165.wr W167 (Or.inr sz_b165)
      have N167 := Fr.snoc X167 N0 gg_b165
      obtain ⟨cl168, Ar168, q168, S168, M168, H168, G168⟩ := id V167
      have hin168 : ¬ ((1 : Int32) < 0 ∨ cl168.slots.size ≤ ((1 : Int32)).toNatClampNeg) := inb_of S168 ⟨by decide, by decide⟩
      obtain ⟨T169, h169, X169, e169, W169, st169⟩ := stB X167 hx hZ e167 Ar168 (j := (1 : Int32)) hin168 (g := (mkF m 196 #[.val (.int p0), .val (.int p1), .val (.int p2), .val (.int p3), .val (.int ((p0 &&& (2147483647 : Int32)) % (9 : Int32))), .val (.ref o), .val (.int tg), .val (.int (3 : Int32)), .val (.ref b165), .unset, .unset] [(.int (p3.toInt8.toInt32)), (.int (1 : Int32)), (.ref b165)])) rfl rfl (hb hby at_196)
      have V169 : Arv Z h169 b165 k165 .byte (3 : Int32) [(.int (nar .byte (p2.toInt8.toInt32))), (.int (nar .byte (p3.toInt8.toInt32))), (.int (0 : Int32))] (.int (0 : Int32)) := Arv.set Ar168 q168 S168 M168 H168 G168 (fits_nar_byte _) W169 1 rfl (Nat.le_of_ble_eq_true rfl)
      have K169 := K167.wr W169 (Or.inr sz_b165)
      have N169 := Fr.snoc X169 N167 gg_b165
      obtain ⟨cl170, Ar170, q170, S170, M170, H170, G170⟩ := id V169
      have hin170 : ¬ ((2 : Int32) < 0 ∨ cl170.slots.size ≤ ((2 : Int32)).toNatClampNeg) := inb_of S170 ⟨by decide, by decide⟩
      obtain ⟨T171, h171, X171, e171, W171, st171⟩ := stB X169 hx hZ e169 Ar170 (j := (2 : Int32)) hin170 (g := (mkF m 211 #[.val (.int p0), .val (.int p1), .val (.int p2), .val (.int p3), .val (.int ((p0 &&& (2147483647 : Int32)) % (9 : Int32))), .val (.ref o), .val (.int tg), .val (.int (3 : Int32)), .val (.ref b165), .unset, .unset] [(.int ((p3 >>> ((8 : Int32) &&& 31)).toInt8.toInt32)), (.int (2 : Int32)), (.ref b165)])) rfl rfl (hb hby at_211)
      have V171 : Arv Z h171 b165 k165 .byte (3 : Int32) [(.int (nar .byte (p2.toInt8.toInt32))), (.int (nar .byte (p3.toInt8.toInt32))), (.int (nar .byte ((p3 >>> ((8 : Int32) &&& 31)).toInt8.toInt32)))] (.int (0 : Int32)) := Arv.set Ar170 q170 S170 M170 H170 G170 (fits_nar_byte _) W171 2 rfl (Nat.le_of_ble_eq_true rfl)
      have K171 := K169.wr W171 (Or.inr sz_b165)
      have N171 := Fr.snoc X171 N169 gg_b165
      have pre172 : ∀ t, Steps p.tables e below (T171.setTop (mkF m 224 #[.val (.int p0), .val (.int p1), .val (.int p2), .val (.int p3), .val (.int ((p0 &&& (2147483647 : Int32)) % (9 : Int32))), .val (.ref o), .val (.int tg), .val (.int (3 : Int32)), .val (.ref b165), .unset, .unset] [(.int tg), (.int (p2 &&& (255 : Int32)))])) t → Steps p.tables e below (s₁.setTop (entryFrame m #[(.int p0), (.int p1), (.int p2), (.int p3)] maxLocals)) t := fun t k => by
        refine pre58 _ ?_
        show Steps p.tables e below (TJ.setTop (mkF m 168 #[.val (.int p0), .val (.int p1), .val (.int p2), .val (.int p3), .val (.int ((p0 &&& (2147483647 : Int32)) % (9 : Int32))), .val (.ref o), .val (.int tg), .val (.int (p1 &&& (3 : Int32))), .unset, .unset, .unset] [])) _
        rw [hk]
        show Steps p.tables e below (TJ.setTop (mkF m 168 #[.val (.int p0), .val (.int p1), .val (.int p2), .val (.int p3), .val (.int ((p0 &&& (2147483647 : Int32)) % (9 : Int32))), .val (.ref o), .val (.int tg), .val (.int (3 : Int32)), .unset, .unset, .unset] [])) _
        refine XS.iload XJ.here hx rfl (hb hby at_168) rfl ?_
        show Steps p.tables e below (TJ.setTop (mkF m 170 #[.val (.int p0), .val (.int p1), .val (.int p2), .val (.int p3), .val (.int ((p0 &&& (2147483647 : Int32)) % (9 : Int32))), .val (.ref o), .val (.int tg), .val (.int (3 : Int32)), .unset, .unset, .unset] [(.int (3 : Int32))])) _
        refine st165 _ ?_
        show Steps p.tables e below (T165.setTop (mkF m 172 #[.val (.int p0), .val (.int p1), .val (.int p2), .val (.int p3), .val (.int ((p0 &&& (2147483647 : Int32)) % (9 : Int32))), .val (.ref o), .val (.int tg), .val (.int (3 : Int32)), .unset, .unset, .unset] [(.ref b165)])) _
        refine XS.astore X165.here hx rfl (hb hby at_172) rfl rfl (l' := #[.val (.int p0), .val (.int p1), .val (.int p2), .val (.int p3), .val (.int ((p0 &&& (2147483647 : Int32)) % (9 : Int32))), .val (.ref o), .val (.int tg), .val (.int (3 : Int32)), .val (.ref b165), .unset, .unset]) rfl ?_
        show Steps p.tables e below (T165.setTop (mkF m 174 #[.val (.int p0), .val (.int p1), .val (.int p2), .val (.int p3), .val (.int ((p0 &&& (2147483647 : Int32)) % (9 : Int32))), .val (.ref o), .val (.int tg), .val (.int (3 : Int32)), .val (.ref b165), .unset, .unset] [])) _
        refine XS.iload X165.here hx rfl (hb hby at_174) rfl ?_
        show Steps p.tables e below (T165.setTop (mkF m 176 #[.val (.int p0), .val (.int p1), .val (.int p2), .val (.int p3), .val (.int ((p0 &&& (2147483647 : Int32)) % (9 : Int32))), .val (.ref o), .val (.int tg), .val (.int (3 : Int32)), .val (.ref b165), .unset, .unset] [(.int (3 : Int32))])) _
        refine XS.ifNo X165.here hx rfl (hb hby at_176) rfl ((if0 _ _).trans (tlt (by decide : ((0 : Int32) < (3 : Int32)))).2.2.2) ?_
        show Steps p.tables e below (T165.setTop (mkF m 179 #[.val (.int p0), .val (.int p1), .val (.int p2), .val (.int p3), .val (.int ((p0 &&& (2147483647 : Int32)) % (9 : Int32))), .val (.ref o), .val (.int tg), .val (.int (3 : Int32)), .val (.ref b165), .unset, .unset] [])) _
        refine XS.aload X165.here hx rfl (hb hby at_179) rfl rfl ?_
        show Steps p.tables e below (T165.setTop (mkF m 181 #[.val (.int p0), .val (.int p1), .val (.int p2), .val (.int p3), .val (.int ((p0 &&& (2147483647 : Int32)) % (9 : Int32))), .val (.ref o), .val (.int tg), .val (.int (3 : Int32)), .val (.ref b165), .unset, .unset] [(.ref b165)])) _
        refine XS.iconst X165.here hx rfl (hb hby at_181) ?_
        show Steps p.tables e below (T165.setTop (mkF m 182 #[.val (.int p0), .val (.int p1), .val (.int p2), .val (.int p3), .val (.int ((p0 &&& (2147483647 : Int32)) % (9 : Int32))), .val (.ref o), .val (.int tg), .val (.int (3 : Int32)), .val (.ref b165), .unset, .unset] [(.int (0 : Int32)), (.ref b165)])) _
        refine XS.iloadN X165.here hx rfl (hb hby at_182) rfl ?_
        show Steps p.tables e below (T165.setTop (mkF m 183 #[.val (.int p0), .val (.int p1), .val (.int p2), .val (.int p3), .val (.int ((p0 &&& (2147483647 : Int32)) % (9 : Int32))), .val (.ref o), .val (.int tg), .val (.int (3 : Int32)), .val (.ref b165), .unset, .unset] [(.int p2), (.int (0 : Int32)), (.ref b165)])) _
        refine XS.i2b X165.here hx rfl (hb hby at_183) rfl ?_
        show Steps p.tables e below (T165.setTop (mkF m 184 #[.val (.int p0), .val (.int p1), .val (.int p2), .val (.int p3), .val (.int ((p0 &&& (2147483647 : Int32)) % (9 : Int32))), .val (.ref o), .val (.int tg), .val (.int (3 : Int32)), .val (.ref b165), .unset, .unset] [(.int (p2.toInt8.toInt32)), (.int (0 : Int32)), (.ref b165)])) _
        refine st167 _ ?_
        show Steps p.tables e below (T167.setTop (mkF m 185 #[.val (.int p0), .val (.int p1), .val (.int p2), .val (.int p3), .val (.int ((p0 &&& (2147483647 : Int32)) % (9 : Int32))), .val (.ref o), .val (.int tg), .val (.int (3 : Int32)), .val (.ref b165), .unset, .unset] [])) _
        refine XS.iload X167.here hx rfl (hb hby at_185) rfl ?_
        show Steps p.tables e below (T167.setTop (mkF m 187 #[.val (.int p0), .val (.int p1), .val (.int p2), .val (.int p3), .val (.int ((p0 &&& (2147483647 : Int32)) % (9 : Int32))), .val (.ref o), .val (.int tg), .val (.int (3 : Int32)), .val (.ref b165), .unset, .unset] [(.int (3 : Int32))])) _
        refine XS.iconst X167.here hx rfl (hb hby at_187) ?_
        show Steps p.tables e below (T167.setTop (mkF m 188 #[.val (.int p0), .val (.int p1), .val (.int p2), .val (.int p3), .val (.int ((p0 &&& (2147483647 : Int32)) % (9 : Int32))), .val (.ref o), .val (.int tg), .val (.int (3 : Int32)), .val (.ref b165), .unset, .unset] [(.int (1 : Int32)), (.int (3 : Int32))])) _
        refine XS.icmpNo X167.here hx rfl (hb hby at_188) rfl (tlt (by decide : ((1 : Int32) < (3 : Int32)))).2.2.2 ?_
        show Steps p.tables e below (T167.setTop (mkF m 191 #[.val (.int p0), .val (.int p1), .val (.int p2), .val (.int p3), .val (.int ((p0 &&& (2147483647 : Int32)) % (9 : Int32))), .val (.ref o), .val (.int tg), .val (.int (3 : Int32)), .val (.ref b165), .unset, .unset] [])) _
        refine XS.aload X167.here hx rfl (hb hby at_191) rfl rfl ?_
        show Steps p.tables e below (T167.setTop (mkF m 193 #[.val (.int p0), .val (.int p1), .val (.int p2), .val (.int p3), .val (.int ((p0 &&& (2147483647 : Int32)) % (9 : Int32))), .val (.ref o), .val (.int tg), .val (.int (3 : Int32)), .val (.ref b165), .unset, .unset] [(.ref b165)])) _
        refine XS.iconst X167.here hx rfl (hb hby at_193) ?_
        show Steps p.tables e below (T167.setTop (mkF m 194 #[.val (.int p0), .val (.int p1), .val (.int p2), .val (.int p3), .val (.int ((p0 &&& (2147483647 : Int32)) % (9 : Int32))), .val (.ref o), .val (.int tg), .val (.int (3 : Int32)), .val (.ref b165), .unset, .unset] [(.int (1 : Int32)), (.ref b165)])) _
        refine XS.iloadN X167.here hx rfl (hb hby at_194) rfl ?_
        show Steps p.tables e below (T167.setTop (mkF m 195 #[.val (.int p0), .val (.int p1), .val (.int p2), .val (.int p3), .val (.int ((p0 &&& (2147483647 : Int32)) % (9 : Int32))), .val (.ref o), .val (.int tg), .val (.int (3 : Int32)), .val (.ref b165), .unset, .unset] [(.int p3), (.int (1 : Int32)), (.ref b165)])) _
        refine XS.i2b X167.here hx rfl (hb hby at_195) rfl ?_
        show Steps p.tables e below (T167.setTop (mkF m 196 #[.val (.int p0), .val (.int p1), .val (.int p2), .val (.int p3), .val (.int ((p0 &&& (2147483647 : Int32)) % (9 : Int32))), .val (.ref o), .val (.int tg), .val (.int (3 : Int32)), .val (.ref b165), .unset, .unset] [(.int (p3.toInt8.toInt32)), (.int (1 : Int32)), (.ref b165)])) _
        refine st169 _ ?_
        show Steps p.tables e below (T169.setTop (mkF m 197 #[.val (.int p0), .val (.int p1), .val (.int p2), .val (.int p3), .val (.int ((p0 &&& (2147483647 : Int32)) % (9 : Int32))), .val (.ref o), .val (.int tg), .val (.int (3 : Int32)), .val (.ref b165), .unset, .unset] [])) _
        refine XS.iload X169.here hx rfl (hb hby at_197) rfl ?_
        show Steps p.tables e below (T169.setTop (mkF m 199 #[.val (.int p0), .val (.int p1), .val (.int p2), .val (.int p3), .val (.int ((p0 &&& (2147483647 : Int32)) % (9 : Int32))), .val (.ref o), .val (.int tg), .val (.int (3 : Int32)), .val (.ref b165), .unset, .unset] [(.int (3 : Int32))])) _
        refine XS.iconst X169.here hx rfl (hb hby at_199) ?_
        show Steps p.tables e below (T169.setTop (mkF m 200 #[.val (.int p0), .val (.int p1), .val (.int p2), .val (.int p3), .val (.int ((p0 &&& (2147483647 : Int32)) % (9 : Int32))), .val (.ref o), .val (.int tg), .val (.int (3 : Int32)), .val (.ref b165), .unset, .unset] [(.int (2 : Int32)), (.int (3 : Int32))])) _
        refine XS.icmpNo X169.here hx rfl (hb hby at_200) rfl (tlt (by decide : ((2 : Int32) < (3 : Int32)))).2.2.2 ?_
        show Steps p.tables e below (T169.setTop (mkF m 203 #[.val (.int p0), .val (.int p1), .val (.int p2), .val (.int p3), .val (.int ((p0 &&& (2147483647 : Int32)) % (9 : Int32))), .val (.ref o), .val (.int tg), .val (.int (3 : Int32)), .val (.ref b165), .unset, .unset] [])) _
        refine XS.aload X169.here hx rfl (hb hby at_203) rfl rfl ?_
        show Steps p.tables e below (T169.setTop (mkF m 205 #[.val (.int p0), .val (.int p1), .val (.int p2), .val (.int p3), .val (.int ((p0 &&& (2147483647 : Int32)) % (9 : Int32))), .val (.ref o), .val (.int tg), .val (.int (3 : Int32)), .val (.ref b165), .unset, .unset] [(.ref b165)])) _
        refine XS.iconst X169.here hx rfl (hb hby at_205) ?_
        show Steps p.tables e below (T169.setTop (mkF m 206 #[.val (.int p0), .val (.int p1), .val (.int p2), .val (.int p3), .val (.int ((p0 &&& (2147483647 : Int32)) % (9 : Int32))), .val (.ref o), .val (.int tg), .val (.int (3 : Int32)), .val (.ref b165), .unset, .unset] [(.int (2 : Int32)), (.ref b165)])) _
        refine XS.iloadN X169.here hx rfl (hb hby at_206) rfl ?_
        show Steps p.tables e below (T169.setTop (mkF m 207 #[.val (.int p0), .val (.int p1), .val (.int p2), .val (.int p3), .val (.int ((p0 &&& (2147483647 : Int32)) % (9 : Int32))), .val (.ref o), .val (.int tg), .val (.int (3 : Int32)), .val (.ref b165), .unset, .unset] [(.int p3), (.int (2 : Int32)), (.ref b165)])) _
        refine XS.bipush X169.here hx rfl (hb hby at_207) ?_
        show Steps p.tables e below (T169.setTop (mkF m 209 #[.val (.int p0), .val (.int p1), .val (.int p2), .val (.int p3), .val (.int ((p0 &&& (2147483647 : Int32)) % (9 : Int32))), .val (.ref o), .val (.int tg), .val (.int (3 : Int32)), .val (.ref b165), .unset, .unset] [(.int (8 : Int32)), (.int p3), (.int (2 : Int32)), (.ref b165)])) _
        refine XS.ishr X169.here hx rfl (hb hby at_209) rfl ?_
        show Steps p.tables e below (T169.setTop (mkF m 210 #[.val (.int p0), .val (.int p1), .val (.int p2), .val (.int p3), .val (.int ((p0 &&& (2147483647 : Int32)) % (9 : Int32))), .val (.ref o), .val (.int tg), .val (.int (3 : Int32)), .val (.ref b165), .unset, .unset] [(.int (p3 >>> ((8 : Int32) &&& 31))), (.int (2 : Int32)), (.ref b165)])) _
        refine XS.i2b X169.here hx rfl (hb hby at_210) rfl ?_
        show Steps p.tables e below (T169.setTop (mkF m 211 #[.val (.int p0), .val (.int p1), .val (.int p2), .val (.int p3), .val (.int ((p0 &&& (2147483647 : Int32)) % (9 : Int32))), .val (.ref o), .val (.int tg), .val (.int (3 : Int32)), .val (.ref b165), .unset, .unset] [(.int ((p3 >>> ((8 : Int32) &&& 31)).toInt8.toInt32)), (.int (2 : Int32)), (.ref b165)])) _
        refine st171 _ ?_
        show Steps p.tables e below (T171.setTop (mkF m 212 #[.val (.int p0), .val (.int p1), .val (.int p2), .val (.int p3), .val (.int ((p0 &&& (2147483647 : Int32)) % (9 : Int32))), .val (.ref o), .val (.int tg), .val (.int (3 : Int32)), .val (.ref b165), .unset, .unset] [])) _
        refine XS.iload X171.here hx rfl (hb hby at_212) rfl ?_
        show Steps p.tables e below (T171.setTop (mkF m 214 #[.val (.int p0), .val (.int p1), .val (.int p2), .val (.int p3), .val (.int ((p0 &&& (2147483647 : Int32)) % (9 : Int32))), .val (.ref o), .val (.int tg), .val (.int (3 : Int32)), .val (.ref b165), .unset, .unset] [(.int (3 : Int32))])) _
        refine XS.ifNo X171.here hx rfl (hb hby at_214) rfl ((if0 _ _).trans (tlt (by decide : ((0 : Int32) < (3 : Int32)))).2.2.2) ?_
        show Steps p.tables e below (T171.setTop (mkF m 217 #[.val (.int p0), .val (.int p1), .val (.int p2), .val (.int p3), .val (.int ((p0 &&& (2147483647 : Int32)) % (9 : Int32))), .val (.ref o), .val (.int tg), .val (.int (3 : Int32)), .val (.ref b165), .unset, .unset] [])) _
        refine XS.iloadN X171.here hx rfl (hb hby at_217) rfl ?_
        show Steps p.tables e below (T171.setTop (mkF m 218 #[.val (.int p0), .val (.int p1), .val (.int p2), .val (.int p3), .val (.int ((p0 &&& (2147483647 : Int32)) % (9 : Int32))), .val (.ref o), .val (.int tg), .val (.int (3 : Int32)), .val (.ref b165), .unset, .unset] [(.int p2)])) _
        refine XS.sipush X171.here hx rfl (hb hby at_218) ?_
        show Steps p.tables e below (T171.setTop (mkF m 221 #[.val (.int p0), .val (.int p1), .val (.int p2), .val (.int p3), .val (.int ((p0 &&& (2147483647 : Int32)) % (9 : Int32))), .val (.ref o), .val (.int tg), .val (.int (3 : Int32)), .val (.ref b165), .unset, .unset] [(.int (255 : Int32)), (.int p2)])) _
        refine XS.iand X171.here hx rfl (hb hby at_221) rfl ?_
        show Steps p.tables e below (T171.setTop (mkF m 222 #[.val (.int p0), .val (.int p1), .val (.int p2), .val (.int p3), .val (.int ((p0 &&& (2147483647 : Int32)) % (9 : Int32))), .val (.ref o), .val (.int tg), .val (.int (3 : Int32)), .val (.ref b165), .unset, .unset] [(.int (p2 &&& (255 : Int32)))])) _
        refine XS.iload X171.here hx rfl (hb hby at_222) rfl ?_
        exact k
      by_cases hc224 : (p2 &&& (255 : Int32)) = tg
      · have Q173 := ((((F_o_tag.ext E165).other W167 (Or.inl ne_o_b165)).other W169 (Or.inl ne_o_b165)).other W171 (Or.inl ne_o_b165))
        have Q175 := ((((E_o.ext E165).wr W167).wr W169).wr W171)
        obtain ⟨cq174, kq174, q174a, q174b, q174c⟩ := isOf hZ e171 Q175
        obtain ⟨_, _, ⟨T174, L174, k174, n174⟩, -, X174, ⟨Lc174, hQ174, l174, y174, z174⟩, st174⟩ := X171.virtualBack hx (y := (⟨"com/example/counterpoise/counterpoise/store/Records$Kind", "prefix", "()[B"⟩ : MethodName)) (z := (⟨"com/example/counterpoise/counterpoise/store/Records$Kind", "prefix", "()[B"⟩ : MethodName)) hown (mvT hZ (hw _ (List.mem_of_getElem? (i := 5) rfl))) (mvT hZ (hw _ (List.mem_of_getElem? (i := 6) rfl))) (notFace_of_selects (args := #[]) (mvT hZ (hw _ (List.mem_of_getElem? (i := 8) rfl)))) (mvT hZ (hw _ (List.mem_of_getElem? (i := 8) rfl))) (mvT hZ (hw _ (List.mem_of_getElem? (i := 7) rfl))) (by decide) (backOf (W := 0) (rm1 l Z a0 hw [] o tg h171 n0 (Nat.le_trans Z0 K171.1) Q173) hZ (hw _ (List.mem_of_getElem? (i := 9) rfl)) (hw _ (List.mem_of_getElem? (i := 2) rfl)) (by decide) (by decide)) q174a q174c (g := (mkF m 236 #[.val (.int p0), .val (.int p1), .val (.int p2), .val (.int p3), .val (.int ((p0 &&& (2147483647 : Int32)) % (9 : Int32))), .val (.ref o), .val (.int tg), .val (.int (3 : Int32)), .val (.ref b165), .val (.int (1 : Int32)), .unset] [(.ref o)])) rfl (by rw [hml]; rfl) (Steps.refl _) (argsL := []) (rest := []) (lenOf own_pd0 rfl) rfl (by show 2 * 0 + _ ≤ _; exact Nat.le_of_eq rfl) (hb hby at_236) (fun _ _ => ⟨rfl, e171, (by decide : 1 + 1 ≤ _), (by decide : 3 + 1 ≤ _)⟩)
        dsimp only [Pt.U, Pt.locs, Pt.cells, Pt.slots] at X174 l174 y174 z174 st174 hQ174
        subst l174 y174 z174
        obtain ⟨b_174, k_174, rfl, N174q, i174_4, i174_5, i174_6⟩ := hQ174
        have N174 := Fr.app N171 N174q
        have Q176 := ((((E_o0.ext E165).wr W167).wr W169).wr W171)
        have ne_o0_b_174 : o0 ≠ b_174 := Nat.ne_of_lt (Nat.lt_of_lt_of_le Q176.lt i174_5)
        have Q177 := ((((E_o1.ext E165).wr W167).wr W169).wr W171)
        have ne_o1_b_174 : o1 ≠ b_174 := Nat.ne_of_lt (Nat.lt_of_lt_of_le Q177.lt i174_5)
        have Q178 := ((((E_o2.ext E165).wr W167).wr W169).wr W171)
        have ne_o2_b_174 : o2 ≠ b_174 := Nat.ne_of_lt (Nat.lt_of_lt_of_le Q178.lt i174_5)
        have Q179 := ((((E_o3.ext E165).wr W167).wr W169).wr W171)
        have ne_o3_b_174 : o3 ≠ b_174 := Nat.ne_of_lt (Nat.lt_of_lt_of_le Q179.lt i174_5)
        have Q180 := ((((E_o4.ext E165).wr W167).wr W169).wr W171)
        have ne_o4_b_174 : o4 ≠ b_174 := Nat.ne_of_lt (Nat.lt_of_lt_of_le Q180.lt i174_5)
        have Q181 := ((((E_o5.ext E165).wr W167).wr W169).wr W171)
        have ne_o5_b_174 : o5 ≠ b_174 := Nat.ne_of_lt (Nat.lt_of_lt_of_le Q181.lt i174_5)
        have Q182 := ((((E_o6.ext E165).wr W167).wr W169).wr W171)
        have ne_o6_b_174 : o6 ≠ b_174 := Nat.ne_of_lt (Nat.lt_of_lt_of_le Q182.lt i174_5)
        have Q183 := ((((E_o7.ext E165).wr W167).wr W169).wr W171)
        have ne_o7_b_174 : o7 ≠ b_174 := Nat.ne_of_lt (Nat.lt_of_lt_of_le Q183.lt i174_5)
        have Q184 := ((((E_o8.ext E165).wr W167).wr W169).wr W171)
        have ne_o8_b_174 : o8 ≠ b_174 := Nat.ne_of_lt (Nat.lt_of_lt_of_le Q184.lt i174_5)
        have ne_o_b_174 : o ≠ b_174 := Nat.ne_of_lt (Nat.lt_of_lt_of_le Q175.lt i174_5)
        have ne_b165_b_174 : b165 ≠ b_174 := Nat.ne_of_lt (Nat.lt_of_lt_of_le V171.lt i174_5)
        have gg_b_174 : n0 ≤ b_174 := Nat.le_trans (Nat.le_trans Z0 K171.1) i174_5
        have sz_b_174 : h0.size ≤ b_174 := Nat.le_trans K171.1 i174_5
        have K174 := K171.trans i174_4 all0
        have Q185 := (Q173.keep i174_4 nin0)
        have Q186 := (V171.keep i174_4 nin0)
        have Q188 := (Q175.keep i174_4)
        obtain ⟨cq187, kq187, q187a, q187b, q187c⟩ := isOf hZ rfl Q188
        obtain ⟨_, _, ⟨T187, L187, k187, n187⟩, -, X187, ⟨Lc187, hQ187, l187, y187, z187⟩, st187⟩ := X174.virtualBack hx (y := (⟨"com/example/counterpoise/counterpoise/store/Records$Kind", "holds", "([B)Z"⟩ : MethodName)) (z := (⟨"com/example/counterpoise/counterpoise/store/Records$Kind", "holds", "([B)Z"⟩ : MethodName)) hown (mvT hZ (hw _ (List.mem_of_getElem? (i := 12) rfl))) (mvT hZ (hw _ (List.mem_of_getElem? (i := 13) rfl))) (notFace_of_selects (args := #[]) (mvT hZ (hw _ (List.mem_of_getElem? (i := 15) rfl)))) (mvT hZ (hw _ (List.mem_of_getElem? (i := 15) rfl))) (mvT hZ (hw _ (List.mem_of_getElem? (i := 14) rfl))) (by decide) (backOf (W := 0) (rm2_3 l Z a0 hw [] o b165 k165 tg (nar .byte (p2.toInt8.toInt32)) (nar .byte (p3.toInt8.toInt32)) (nar .byte ((p3 >>> ((8 : Int32) &&& 31)).toInt8.toInt32)) T174.heap n0 (Nat.le_trans Z0 K174.1) Q185 Q186) hZ (hw _ (List.mem_of_getElem? (i := 16) rfl)) (hw _ (List.mem_of_getElem? (i := 2) rfl)) (by decide) (by decide)) q187a q187c (g := (mkF m 245 #[.val (.int p0), .val (.int p1), .val (.int p2), .val (.int p3), .val (.int ((p0 &&& (2147483647 : Int32)) % (9 : Int32))), .val (.ref o), .val (.int tg), .val (.int (3 : Int32)), .val (.ref b165), .val (.int (1 : Int32)), .val (.ref b_174)] [(.ref b165), (.ref o)])) rfl (by rw [hml]; rfl) (Steps.refl _) (argsL := [(.ref b165)]) (rest := []) (lenOf own_pd1 rfl) rfl (by show 2 * 0 + _ ≤ _; exact Nat.le_of_eq rfl) (hb hby at_245) (fun _ _ => ⟨rfl, rfl, (by decide : 2 + 0 ≤ _), (by decide : 4 + 0 ≤ _)⟩)
        dsimp only [Pt.U, Pt.locs, Pt.cells, Pt.slots] at X187 l187 y187 z187 st187 hQ187
        subst l187 y187 z187
        obtain ⟨rfl, N187q, e187⟩ := hQ187
        have N187 := Fr.app N174 N187q
        have hc250_189 : (own_f_rm2_3 tg (nar .byte (p2.toInt8.toInt32))) = (1 : Int32) := by unfold own_f_rm2_3; rw [if_pos ((own_bt p2 tg htg).mpr hc224)]
        obtain ⟨cq190, kq190, q190a, q190b, q190c⟩ := isOf hZ e187 Q188
        obtain ⟨_, _, ⟨T190, L190, k190, n190⟩, -, X190, ⟨Lc190, hQ190, l190, y190, z190⟩, st190⟩ := X187.virtualBack hx (y := (⟨"com/example/counterpoise/counterpoise/store/Records$Kind", "holds", "([B)Z"⟩ : MethodName)) (z := (⟨"com/example/counterpoise/counterpoise/store/Records$Kind", "holds", "([B)Z"⟩ : MethodName)) hown (mvT hZ (hw _ (List.mem_of_getElem? (i := 12) rfl))) (mvT hZ (hw _ (List.mem_of_getElem? (i := 13) rfl))) (notFace_of_selects (args := #[]) (mvT hZ (hw _ (List.mem_of_getElem? (i := 15) rfl)))) (mvT hZ (hw _ (List.mem_of_getElem? (i := 15) rfl))) (mvT hZ (hw _ (List.mem_of_getElem? (i := 14) rfl))) (by decide) (backOf (W := 0) (rm2_1 l Z a0 hw [] o b_174 k_174 tg (nar .byte tg) T174.heap n0 (Nat.le_trans Z0 K174.1) Q185 i174_6) hZ (hw _ (List.mem_of_getElem? (i := 16) rfl)) (hw _ (List.mem_of_getElem? (i := 2) rfl)) (by decide) (by decide)) q190a q190c (g := (mkF m 257 #[.val (.int p0), .val (.int p1), .val (.int p2), .val (.int p3), .val (.int ((p0 &&& (2147483647 : Int32)) % (9 : Int32))), .val (.ref o), .val (.int tg), .val (.int (3 : Int32)), .val (.ref b165), .val (.int (1 : Int32)), .val (.ref b_174)] [(.ref b_174), (.ref o)])) rfl (by rw [hml]; rfl) (Steps.refl _) (argsL := [(.ref b_174)]) (rest := []) (lenOf own_pd1 rfl) rfl (by show 2 * 0 + _ ≤ _; exact Nat.le_of_eq rfl) (hb hby at_257) (fun _ _ => ⟨rfl, e187, (by decide : 2 + 0 ≤ _), (by decide : 4 + 0 ≤ _)⟩)
        dsimp only [Pt.U, Pt.locs, Pt.cells, Pt.slots] at X190 l190 y190 z190 st190 hQ190
        subst l190 y190 z190
        obtain ⟨rfl, N190q, e190⟩ := hQ190
        have N190 := Fr.app N187 N190q
        have hc260_191 : ¬ ((own_f_rm2_1 tg (nar .byte tg)) = (0 : Int32)) := by unfold own_f_rm2_1; rw [if_pos (own_nt tg htg)]; decide
        obtain ⟨fs, hr, hrun, hended, hW, hsame⟩ := X190.leave (v := some (.int (1 : Int32))) (fun h => by rw [Bd.returns] at h; cases h)
        refine ⟨_, _, pre172 _ ?_, hrun, hended, _, _, rfl, ?_, ⟨_, rfl⟩, hW, hsame.mono (by decide) (by decide)⟩
        · show Steps p.tables e below (T171.setTop (mkF m 224 #[.val (.int p0), .val (.int p1), .val (.int p2), .val (.int p3), .val (.int ((p0 &&& (2147483647 : Int32)) % (9 : Int32))), .val (.ref o), .val (.int tg), .val (.int (3 : Int32)), .val (.ref b165), .unset, .unset] [(.int tg), (.int (p2 &&& (255 : Int32)))])) _
          refine XS.icmpNo X171.here hx rfl (hb hby at_224) rfl (teq hc224).2 ?_
          show Steps p.tables e below (T171.setTop (mkF m 227 #[.val (.int p0), .val (.int p1), .val (.int p2), .val (.int p3), .val (.int ((p0 &&& (2147483647 : Int32)) % (9 : Int32))), .val (.ref o), .val (.int tg), .val (.int (3 : Int32)), .val (.ref b165), .unset, .unset] [])) _
          refine XS.iconst X171.here hx rfl (hb hby at_227) ?_
          show Steps p.tables e below (T171.setTop (mkF m 228 #[.val (.int p0), .val (.int p1), .val (.int p2), .val (.int p3), .val (.int ((p0 &&& (2147483647 : Int32)) % (9 : Int32))), .val (.ref o), .val (.int tg), .val (.int (3 : Int32)), .val (.ref b165), .unset, .unset] [(.int (1 : Int32))])) _
          refine XS.goto X171.here hx rfl (pc0 := 228) (pc' := 232) rfl (hb hby at_228) (by decide) (by decide) ?_
          show Steps p.tables e below (T171.setTop (mkF m 232 #[.val (.int p0), .val (.int p1), .val (.int p2), .val (.int p3), .val (.int ((p0 &&& (2147483647 : Int32)) % (9 : Int32))), .val (.ref o), .val (.int tg), .val (.int (3 : Int32)), .val (.ref b165), .unset, .unset] [(.int (1 : Int32))])) _
          refine XS.istore X171.here hx rfl (hb hby at_232) rfl (l' := #[.val (.int p0), .val (.int p1), .val (.int p2), .val (.int p3), .val (.int ((p0 &&& (2147483647 : Int32)) % (9 : Int32))), .val (.ref o), .val (.int tg), .val (.int (3 : Int32)), .val (.ref b165), .val (.int (1 : Int32)), .unset]) rfl ?_
          show Steps p.tables e below (T171.setTop (mkF m 234 #[.val (.int p0), .val (.int p1), .val (.int p2), .val (.int p3), .val (.int ((p0 &&& (2147483647 : Int32)) % (9 : Int32))), .val (.ref o), .val (.int tg), .val (.int (3 : Int32)), .val (.ref b165), .val (.int (1 : Int32)), .unset] [])) _
          refine XS.aload X171.here hx rfl (hb hby at_234) rfl rfl ?_
          show Steps p.tables e below (T171.setTop (mkF m 236 #[.val (.int p0), .val (.int p1), .val (.int p2), .val (.int p3), .val (.int ((p0 &&& (2147483647 : Int32)) % (9 : Int32))), .val (.ref o), .val (.int tg), .val (.int (3 : Int32)), .val (.ref b165), .val (.int (1 : Int32)), .unset] [(.ref o)])) _
          refine st174.trans ?_
          show Steps p.tables e below (T174.setTop (mkF m 239 #[.val (.int p0), .val (.int p1), .val (.int p2), .val (.int p3), .val (.int ((p0 &&& (2147483647 : Int32)) % (9 : Int32))), .val (.ref o), .val (.int tg), .val (.int (3 : Int32)), .val (.ref b165), .val (.int (1 : Int32)), .unset] [(.ref b_174)])) _
          refine XS.astore X174.here hx rfl (hb hby at_239) rfl rfl (l' := #[.val (.int p0), .val (.int p1), .val (.int p2), .val (.int p3), .val (.int ((p0 &&& (2147483647 : Int32)) % (9 : Int32))), .val (.ref o), .val (.int tg), .val (.int (3 : Int32)), .val (.ref b165), .val (.int (1 : Int32)), .val (.ref b_174)]) rfl ?_
          show Steps p.tables e below (T174.setTop (mkF m 241 #[.val (.int p0), .val (.int p1), .val (.int p2), .val (.int p3), .val (.int ((p0 &&& (2147483647 : Int32)) % (9 : Int32))), .val (.ref o), .val (.int tg), .val (.int (3 : Int32)), .val (.ref b165), .val (.int (1 : Int32)), .val (.ref b_174)] [])) _
          refine XS.aload X174.here hx rfl (hb hby at_241) rfl rfl ?_
          show Steps p.tables e below (T174.setTop (mkF m 243 #[.val (.int p0), .val (.int p1), .val (.int p2), .val (.int p3), .val (.int ((p0 &&& (2147483647 : Int32)) % (9 : Int32))), .val (.ref o), .val (.int tg), .val (.int (3 : Int32)), .val (.ref b165), .val (.int (1 : Int32)), .val (.ref b_174)] [(.ref o)])) _
          refine XS.aload X174.here hx rfl (hb hby at_243) rfl rfl ?_
          show Steps p.tables e below (T174.setTop (mkF m 245 #[.val (.int p0), .val (.int p1), .val (.int p2), .val (.int p3), .val (.int ((p0 &&& (2147483647 : Int32)) % (9 : Int32))), .val (.ref o), .val (.int tg), .val (.int (3 : Int32)), .val (.ref b165), .val (.int (1 : Int32)), .val (.ref b_174)] [(.ref b165), (.ref o)])) _
          refine st187.trans ?_
          show Steps p.tables e below (T187.setTop (mkF m 248 #[.val (.int p0), .val (.int p1), .val (.int p2), .val (.int p3), .val (.int ((p0 &&& (2147483647 : Int32)) % (9 : Int32))), .val (.ref o), .val (.int tg), .val (.int (3 : Int32)), .val (.ref b165), .val (.int (1 : Int32)), .val (.ref b_174)] [(.int (own_f_rm2_3 tg (nar .byte (p2.toInt8.toInt32))))])) _
          refine XS.iload X187.here hx rfl (hb hby at_248) rfl ?_
          show Steps p.tables e below (T187.setTop (mkF m 250 #[.val (.int p0), .val (.int p1), .val (.int p2), .val (.int p3), .val (.int ((p0 &&& (2147483647 : Int32)) % (9 : Int32))), .val (.ref o), .val (.int tg), .val (.int (3 : Int32)), .val (.ref b165), .val (.int (1 : Int32)), .val (.ref b_174)] [(.int (1 : Int32)), (.int (own_f_rm2_3 tg (nar .byte (p2.toInt8.toInt32))))])) _
          refine XS.icmpNo X187.here hx rfl (hb hby at_250) rfl (teq hc250_189).2 ?_
          show Steps p.tables e below (T187.setTop (mkF m 253 #[.val (.int p0), .val (.int p1), .val (.int p2), .val (.int p3), .val (.int ((p0 &&& (2147483647 : Int32)) % (9 : Int32))), .val (.ref o), .val (.int tg), .val (.int (3 : Int32)), .val (.ref b165), .val (.int (1 : Int32)), .val (.ref b_174)] [])) _
          refine XS.aload X187.here hx rfl (hb hby at_253) rfl rfl ?_
          show Steps p.tables e below (T187.setTop (mkF m 255 #[.val (.int p0), .val (.int p1), .val (.int p2), .val (.int p3), .val (.int ((p0 &&& (2147483647 : Int32)) % (9 : Int32))), .val (.ref o), .val (.int tg), .val (.int (3 : Int32)), .val (.ref b165), .val (.int (1 : Int32)), .val (.ref b_174)] [(.ref o)])) _
          refine XS.aload X187.here hx rfl (hb hby at_255) rfl rfl ?_
          show Steps p.tables e below (T187.setTop (mkF m 257 #[.val (.int p0), .val (.int p1), .val (.int p2), .val (.int p3), .val (.int ((p0 &&& (2147483647 : Int32)) % (9 : Int32))), .val (.ref o), .val (.int tg), .val (.int (3 : Int32)), .val (.ref b165), .val (.int (1 : Int32)), .val (.ref b_174)] [(.ref b_174), (.ref o)])) _
          refine st190.trans ?_
          show Steps p.tables e below (T190.setTop (mkF m 260 #[.val (.int p0), .val (.int p1), .val (.int p2), .val (.int p3), .val (.int ((p0 &&& (2147483647 : Int32)) % (9 : Int32))), .val (.ref o), .val (.int tg), .val (.int (3 : Int32)), .val (.ref b165), .val (.int (1 : Int32)), .val (.ref b_174)] [(.int (own_f_rm2_1 tg (nar .byte tg)))])) _
          refine XS.ifNo X190.here hx rfl (hb hby at_260) rfl ((if0 _ _).trans (feq hc260_191).1) ?_
          show Steps p.tables e below (T190.setTop (mkF m 263 #[.val (.int p0), .val (.int p1), .val (.int p2), .val (.int p3), .val (.int ((p0 &&& (2147483647 : Int32)) % (9 : Int32))), .val (.ref o), .val (.int tg), .val (.int (3 : Int32)), .val (.ref b165), .val (.int (1 : Int32)), .val (.ref b_174)] [])) _
          refine XS.iconst X190.here hx rfl (hb hby at_263) ?_
          show Steps p.tables e below (T190.setTop (mkF m 264 #[.val (.int p0), .val (.int p1), .val (.int p2), .val (.int p3), .val (.int ((p0 &&& (2147483647 : Int32)) % (9 : Int32))), .val (.ref o), .val (.int tg), .val (.int (3 : Int32)), .val (.ref b165), .val (.int (1 : Int32)), .val (.ref b_174)] [(.int (1 : Int32))])) _
          refine XS.goto X190.here hx rfl (pc0 := 264) (pc' := 268) rfl (hb hby at_264) (by decide) (by decide) ?_
          show Steps p.tables e below (T190.setTop (mkF m 268 #[.val (.int p0), .val (.int p1), .val (.int p2), .val (.int p3), .val (.int ((p0 &&& (2147483647 : Int32)) % (9 : Int32))), .val (.ref o), .val (.int tg), .val (.int (3 : Int32)), .val (.ref b165), .val (.int (1 : Int32)), .val (.ref b_174)] [(.int (1 : Int32))])) _
          exact retN X190 hx (t := .boolean) Bd.returns (by simp) (hb hby at_268) hr
        · show Q0 Z p0 p1 p2 p3 o0 o1 o2 o3 o4 o5 o6 o7 o8 h0 n0 _ T190.heap _
          rw [e190]
          exact ⟨rfl, N190⟩
      · have Q192 := ((((F_o_tag.ext E165).other W167 (Or.inl ne_o_b165)).other W169 (Or.inl ne_o_b165)).other W171 (Or.inl ne_o_b165))
        have Q194 := ((((E_o.ext E165).wr W167).wr W169).wr W171)
        obtain ⟨cq193, kq193, q193a, q193b, q193c⟩ := isOf hZ e171 Q194
        obtain ⟨_, _, ⟨T193, L193, k193, n193⟩, -, X193, ⟨Lc193, hQ193, l193, y193, z193⟩, st193⟩ := X171.virtualBack hx (y := (⟨"com/example/counterpoise/counterpoise/store/Records$Kind", "prefix", "()[B"⟩ : MethodName)) (z := (⟨"com/example/counterpoise/counterpoise/store/Records$Kind", "prefix", "()[B"⟩ : MethodName)) hown (mvT hZ (hw _ (List.mem_of_getElem? (i := 5) rfl))) (mvT hZ (hw _ (List.mem_of_getElem? (i := 6) rfl))) (notFace_of_selects (args := #[]) (mvT hZ (hw _ (List.mem_of_getElem? (i := 8) rfl)))) (mvT hZ (hw _ (List.mem_of_getElem? (i := 8) rfl))) (mvT hZ (hw _ (List.mem_of_getElem? (i := 7) rfl))) (by decide) (backOf (W := 0) (rm1 l Z a0 hw [] o tg h171 n0 (Nat.le_trans Z0 K171.1) Q192) hZ (hw _ (List.mem_of_getElem? (i := 9) rfl)) (hw _ (List.mem_of_getElem? (i := 2) rfl)) (by decide) (by decide)) q193a q193c (g := (mkF m 236 #[.val (.int p0), .val (.int p1), .val (.int p2), .val (.int p3), .val (.int ((p0 &&& (2147483647 : Int32)) % (9 : Int32))), .val (.ref o), .val (.int tg), .val (.int (3 : Int32)), .val (.ref b165), .val (.int (0 : Int32)), .unset] [(.ref o)])) rfl (by rw [hml]; rfl) (Steps.refl _) (argsL := []) (rest := []) (lenOf own_pd0 rfl) rfl (by show 2 * 0 + _ ≤ _; exact Nat.le_of_eq rfl) (hb hby at_236) (fun _ _ => ⟨rfl, e171, (by decide : 1 + 1 ≤ _), (by decide : 3 + 1 ≤ _)⟩)
        dsimp only [Pt.U, Pt.locs, Pt.cells, Pt.slots] at X193 l193 y193 z193 st193 hQ193
        subst l193 y193 z193
        obtain ⟨b_193, k_193, rfl, N193q, i193_4, i193_5, i193_6⟩ := hQ193
        have N193 := Fr.app N171 N193q
        have Q195 := ((((E_o0.ext E165).wr W167).wr W169).wr W171)
        have ne_o0_b_193 : o0 ≠ b_193 := Nat.ne_of_lt (Nat.lt_of_lt_of_le Q195.lt i193_5)
        have Q196 := ((((E_o1.ext E165).wr W167).wr W169).wr W171)
        have ne_o1_b_193 : o1 ≠ b_193 := Nat.ne_of_lt (Nat.lt_of_lt_of_le Q196.lt i193_5)
        have Q197 := ((((E_o2.ext E165).wr W167).wr W169).wr W171)
        have ne_o2_b_193 : o2 ≠ b_193 := Nat.ne_of_lt (Nat.lt_of_lt_of_le Q197.lt i193_5)
        have Q198 := ((((E_o3.ext E165).wr W167).wr W169).wr W171)
        have ne_o3_b_193 : o3 ≠ b_193 := Nat.ne_of_lt (Nat.lt_of_lt_of_le Q198.lt i193_5)
        have Q199 := ((((E_o4.ext E165).wr W167).wr W169).wr W171)
        have ne_o4_b_193 : o4 ≠ b_193 := Nat.ne_of_lt (Nat.lt_of_lt_of_le Q199.lt i193_5)
        have Q200 := ((((E_o5.ext E165).wr W167).wr W169).wr W171)
        have ne_o5_b_193 : o5 ≠ b_193 := Nat.ne_of_lt (Nat.lt_of_lt_of_le Q200.lt i193_5)
        have Q201 := ((((E_o6.ext E165).wr W167).wr W169).wr W171)
        have ne_o6_b_193 : o6 ≠ b_193 := Nat.ne_of_lt (Nat.lt_of_lt_of_le Q201.lt i193_5)
        have Q202 := ((((E_o7.ext E165).wr W167).wr W169).wr W171)
        have ne_o7_b_193 : o7 ≠ b_193 := Nat.ne_of_lt (Nat.lt_of_lt_of_le Q202.lt i193_5)
        have Q203 := ((((E_o8.ext E165).wr W167).wr W169).wr W171)
        have ne_o8_b_193 : o8 ≠ b_193 := Nat.ne_of_lt (Nat.lt_of_lt_of_le Q203.lt i193_5)
        have ne_o_b_193 : o ≠ b_193 := Nat.ne_of_lt (Nat.lt_of_lt_of_le Q194.lt i193_5)
        have ne_b165_b_193 : b165 ≠ b_193 := Nat.ne_of_lt (Nat.lt_of_lt_of_le V171.lt i193_5)
        have gg_b_193 : n0 ≤ b_193 := Nat.le_trans (Nat.le_trans Z0 K171.1) i193_5
        have sz_b_193 : h0.size ≤ b_193 := Nat.le_trans K171.1 i193_5
        have K193 := K171.trans i193_4 all0
        have Q204 := (Q192.keep i193_4 nin0)
        have Q205 := (V171.keep i193_4 nin0)
        have Q207 := (Q194.keep i193_4)
        obtain ⟨cq206, kq206, q206a, q206b, q206c⟩ := isOf hZ rfl Q207
        obtain ⟨_, _, ⟨T206, L206, k206, n206⟩, -, X206, ⟨Lc206, hQ206, l206, y206, z206⟩, st206⟩ := X193.virtualBack hx (y := (⟨"com/example/counterpoise/counterpoise/store/Records$Kind", "holds", "([B)Z"⟩ : MethodName)) (z := (⟨"com/example/counterpoise/counterpoise/store/Records$Kind", "holds", "([B)Z"⟩ : MethodName)) hown (mvT hZ (hw _ (List.mem_of_getElem? (i := 12) rfl))) (mvT hZ (hw _ (List.mem_of_getElem? (i := 13) rfl))) (notFace_of_selects (args := #[]) (mvT hZ (hw _ (List.mem_of_getElem? (i := 15) rfl)))) (mvT hZ (hw _ (List.mem_of_getElem? (i := 15) rfl))) (mvT hZ (hw _ (List.mem_of_getElem? (i := 14) rfl))) (by decide) (backOf (W := 0) (rm2_3 l Z a0 hw [] o b165 k165 tg (nar .byte (p2.toInt8.toInt32)) (nar .byte (p3.toInt8.toInt32)) (nar .byte ((p3 >>> ((8 : Int32) &&& 31)).toInt8.toInt32)) T193.heap n0 (Nat.le_trans Z0 K193.1) Q204 Q205) hZ (hw _ (List.mem_of_getElem? (i := 16) rfl)) (hw _ (List.mem_of_getElem? (i := 2) rfl)) (by decide) (by decide)) q206a q206c (g := (mkF m 245 #[.val (.int p0), .val (.int p1), .val (.int p2), .val (.int p3), .val (.int ((p0 &&& (2147483647 : Int32)) % (9 : Int32))), .val (.ref o), .val (.int tg), .val (.int (3 : Int32)), .val (.ref b165), .val (.int (0 : Int32)), .val (.ref b_193)] [(.ref b165), (.ref o)])) rfl (by rw [hml]; rfl) (Steps.refl _) (argsL := [(.ref b165)]) (rest := []) (lenOf own_pd1 rfl) rfl (by show 2 * 0 + _ ≤ _; exact Nat.le_of_eq rfl) (hb hby at_245) (fun _ _ => ⟨rfl, rfl, (by decide : 2 + 0 ≤ _), (by decide : 4 + 0 ≤ _)⟩)
        dsimp only [Pt.U, Pt.locs, Pt.cells, Pt.slots] at X206 l206 y206 z206 st206 hQ206
        subst l206 y206 z206
        obtain ⟨rfl, N206q, e206⟩ := hQ206
        have N206 := Fr.app N193 N206q
        have hc250_208 : (own_f_rm2_3 tg (nar .byte (p2.toInt8.toInt32))) = (0 : Int32) := by unfold own_f_rm2_3; rw [if_neg (fun q => hc224 ((own_bt p2 tg htg).mp q))]
        obtain ⟨cq209, kq209, q209a, q209b, q209c⟩ := isOf hZ e206 Q207
        obtain ⟨_, _, ⟨T209, L209, k209, n209⟩, -, X209, ⟨Lc209, hQ209, l209, y209, z209⟩, st209⟩ := X206.virtualBack hx (y := (⟨"com/example/counterpoise/counterpoise/store/Records$Kind", "holds", "([B)Z"⟩ : MethodName)) (z := (⟨"com/example/counterpoise/counterpoise/store/Records$Kind", "holds", "([B)Z"⟩ : MethodName)) hown (mvT hZ (hw _ (List.mem_of_getElem? (i := 12) rfl))) (mvT hZ (hw _ (List.mem_of_getElem? (i := 13) rfl))) (notFace_of_selects (args := #[]) (mvT hZ (hw _ (List.mem_of_getElem? (i := 15) rfl)))) (mvT hZ (hw _ (List.mem_of_getElem? (i := 15) rfl))) (mvT hZ (hw _ (List.mem_of_getElem? (i := 14) rfl))) (by decide) (backOf (W := 0) (rm2_1 l Z a0 hw [] o b_193 k_193 tg (nar .byte tg) T193.heap n0 (Nat.le_trans Z0 K193.1) Q204 i193_6) hZ (hw _ (List.mem_of_getElem? (i := 16) rfl)) (hw _ (List.mem_of_getElem? (i := 2) rfl)) (by decide) (by decide)) q209a q209c (g := (mkF m 257 #[.val (.int p0), .val (.int p1), .val (.int p2), .val (.int p3), .val (.int ((p0 &&& (2147483647 : Int32)) % (9 : Int32))), .val (.ref o), .val (.int tg), .val (.int (3 : Int32)), .val (.ref b165), .val (.int (0 : Int32)), .val (.ref b_193)] [(.ref b_193), (.ref o)])) rfl (by rw [hml]; rfl) (Steps.refl _) (argsL := [(.ref b_193)]) (rest := []) (lenOf own_pd1 rfl) rfl (by show 2 * 0 + _ ≤ _; exact Nat.le_of_eq rfl) (hb hby at_257) (fun _ _ => ⟨rfl, e206, (by decide : 2 + 0 ≤ _), (by decide : 4 + 0 ≤ _)⟩)
        dsimp only [Pt.U, Pt.locs, Pt.cells, Pt.slots] at X209 l209 y209 z209 st209 hQ209
        subst l209 y209 z209
        obtain ⟨rfl, N209q, e209⟩ := hQ209
        have N209 := Fr.app N206 N209q
        have hc260_210 : ¬ ((own_f_rm2_1 tg (nar .byte tg)) = (0 : Int32)) := by unfold own_f_rm2_1; rw [if_pos (own_nt tg htg)]; decide
        obtain ⟨fs, hr, hrun, hended, hW, hsame⟩ := X209.leave (v := some (.int (1 : Int32))) (fun h => by rw [Bd.returns] at h; cases h)
        refine ⟨_, _, pre172 _ ?_, hrun, hended, _, _, rfl, ?_, ⟨_, rfl⟩, hW, hsame.mono (by decide) (by decide)⟩
        · show Steps p.tables e below (T171.setTop (mkF m 224 #[.val (.int p0), .val (.int p1), .val (.int p2), .val (.int p3), .val (.int ((p0 &&& (2147483647 : Int32)) % (9 : Int32))), .val (.ref o), .val (.int tg), .val (.int (3 : Int32)), .val (.ref b165), .unset, .unset] [(.int tg), (.int (p2 &&& (255 : Int32)))])) _
          refine XS.icmpYes X171.here hx rfl (pc0 := 224) (pc' := 231) rfl (hb hby at_224) rfl (feq hc224).2 (by decide) (by decide) ?_
          show Steps p.tables e below (T171.setTop (mkF m 231 #[.val (.int p0), .val (.int p1), .val (.int p2), .val (.int p3), .val (.int ((p0 &&& (2147483647 : Int32)) % (9 : Int32))), .val (.ref o), .val (.int tg), .val (.int (3 : Int32)), .val (.ref b165), .unset, .unset] [])) _
          refine XS.iconst X171.here hx rfl (hb hby at_231) ?_
          show Steps p.tables e below (T171.setTop (mkF m 232 #[.val (.int p0), .val (.int p1), .val (.int p2), .val (.int p3), .val (.int ((p0 &&& (2147483647 : Int32)) % (9 : Int32))), .val (.ref o), .val (.int tg), .val (.int (3 : Int32)), .val (.ref b165), .unset, .unset] [(.int (0 : Int32))])) _
          refine XS.istore X171.here hx rfl (hb hby at_232) rfl (l' := #[.val (.int p0), .val (.int p1), .val (.int p2), .val (.int p3), .val (.int ((p0 &&& (2147483647 : Int32)) % (9 : Int32))), .val (.ref o), .val (.int tg), .val (.int (3 : Int32)), .val (.ref b165), .val (.int (0 : Int32)), .unset]) rfl ?_
          show Steps p.tables e below (T171.setTop (mkF m 234 #[.val (.int p0), .val (.int p1), .val (.int p2), .val (.int p3), .val (.int ((p0 &&& (2147483647 : Int32)) % (9 : Int32))), .val (.ref o), .val (.int tg), .val (.int (3 : Int32)), .val (.ref b165), .val (.int (0 : Int32)), .unset] [])) _
          refine XS.aload X171.here hx rfl (hb hby at_234) rfl rfl ?_
          show Steps p.tables e below (T171.setTop (mkF m 236 #[.val (.int p0), .val (.int p1), .val (.int p2), .val (.int p3), .val (.int ((p0 &&& (2147483647 : Int32)) % (9 : Int32))), .val (.ref o), .val (.int tg), .val (.int (3 : Int32)), .val (.ref b165), .val (.int (0 : Int32)), .unset] [(.ref o)])) _
          refine st193.trans ?_
          show Steps p.tables e below (T193.setTop (mkF m 239 #[.val (.int p0), .val (.int p1), .val (.int p2), .val (.int p3), .val (.int ((p0 &&& (2147483647 : Int32)) % (9 : Int32))), .val (.ref o), .val (.int tg), .val (.int (3 : Int32)), .val (.ref b165), .val (.int (0 : Int32)), .unset] [(.ref b_193)])) _
          refine XS.astore X193.here hx rfl (hb hby at_239) rfl rfl (l' := #[.val (.int p0), .val (.int p1), .val (.int p2), .val (.int p3), .val (.int ((p0 &&& (2147483647 : Int32)) % (9 : Int32))), .val (.ref o), .val (.int tg), .val (.int (3 : Int32)), .val (.ref b165), .val (.int (0 : Int32)), .val (.ref b_193)]) rfl ?_
          show Steps p.tables e below (T193.setTop (mkF m 241 #[.val (.int p0), .val (.int p1), .val (.int p2), .val (.int p3), .val (.int ((p0 &&& (2147483647 : Int32)) % (9 : Int32))), .val (.ref o), .val (.int tg), .val (.int (3 : Int32)), .val (.ref b165), .val (.int (0 : Int32)), .val (.ref b_193)] [])) _
          refine XS.aload X193.here hx rfl (hb hby at_241) rfl rfl ?_
          show Steps p.tables e below (T193.setTop (mkF m 243 #[.val (.int p0), .val (.int p1), .val (.int p2), .val (.int p3), .val (.int ((p0 &&& (2147483647 : Int32)) % (9 : Int32))), .val (.ref o), .val (.int tg), .val (.int (3 : Int32)), .val (.ref b165), .val (.int (0 : Int32)), .val (.ref b_193)] [(.ref o)])) _
          refine XS.aload X193.here hx rfl (hb hby at_243) rfl rfl ?_
          show Steps p.tables e below (T193.setTop (mkF m 245 #[.val (.int p0), .val (.int p1), .val (.int p2), .val (.int p3), .val (.int ((p0 &&& (2147483647 : Int32)) % (9 : Int32))), .val (.ref o), .val (.int tg), .val (.int (3 : Int32)), .val (.ref b165), .val (.int (0 : Int32)), .val (.ref b_193)] [(.ref b165), (.ref o)])) _
          refine st206.trans ?_
          show Steps p.tables e below (T206.setTop (mkF m 248 #[.val (.int p0), .val (.int p1), .val (.int p2), .val (.int p3), .val (.int ((p0 &&& (2147483647 : Int32)) % (9 : Int32))), .val (.ref o), .val (.int tg), .val (.int (3 : Int32)), .val (.ref b165), .val (.int (0 : Int32)), .val (.ref b_193)] [(.int (own_f_rm2_3 tg (nar .byte (p2.toInt8.toInt32))))])) _
          refine XS.iload X206.here hx rfl (hb hby at_248) rfl ?_
          show Steps p.tables e below (T206.setTop (mkF m 250 #[.val (.int p0), .val (.int p1), .val (.int p2), .val (.int p3), .val (.int ((p0 &&& (2147483647 : Int32)) % (9 : Int32))), .val (.ref o), .val (.int tg), .val (.int (3 : Int32)), .val (.ref b165), .val (.int (0 : Int32)), .val (.ref b_193)] [(.int (0 : Int32)), (.int (own_f_rm2_3 tg (nar .byte (p2.toInt8.toInt32))))])) _
          refine XS.icmpNo X206.here hx rfl (hb hby at_250) rfl (teq hc250_208).2 ?_
          show Steps p.tables e below (T206.setTop (mkF m 253 #[.val (.int p0), .val (.int p1), .val (.int p2), .val (.int p3), .val (.int ((p0 &&& (2147483647 : Int32)) % (9 : Int32))), .val (.ref o), .val (.int tg), .val (.int (3 : Int32)), .val (.ref b165), .val (.int (0 : Int32)), .val (.ref b_193)] [])) _
          refine XS.aload X206.here hx rfl (hb hby at_253) rfl rfl ?_
          show Steps p.tables e below (T206.setTop (mkF m 255 #[.val (.int p0), .val (.int p1), .val (.int p2), .val (.int p3), .val (.int ((p0 &&& (2147483647 : Int32)) % (9 : Int32))), .val (.ref o), .val (.int tg), .val (.int (3 : Int32)), .val (.ref b165), .val (.int (0 : Int32)), .val (.ref b_193)] [(.ref o)])) _
          refine XS.aload X206.here hx rfl (hb hby at_255) rfl rfl ?_
          show Steps p.tables e below (T206.setTop (mkF m 257 #[.val (.int p0), .val (.int p1), .val (.int p2), .val (.int p3), .val (.int ((p0 &&& (2147483647 : Int32)) % (9 : Int32))), .val (.ref o), .val (.int tg), .val (.int (3 : Int32)), .val (.ref b165), .val (.int (0 : Int32)), .val (.ref b_193)] [(.ref b_193), (.ref o)])) _
          refine st209.trans ?_
          show Steps p.tables e below (T209.setTop (mkF m 260 #[.val (.int p0), .val (.int p1), .val (.int p2), .val (.int p3), .val (.int ((p0 &&& (2147483647 : Int32)) % (9 : Int32))), .val (.ref o), .val (.int tg), .val (.int (3 : Int32)), .val (.ref b165), .val (.int (0 : Int32)), .val (.ref b_193)] [(.int (own_f_rm2_1 tg (nar .byte tg)))])) _
          refine XS.ifNo X209.here hx rfl (hb hby at_260) rfl ((if0 _ _).trans (feq hc260_210).1) ?_
          show Steps p.tables e below (T209.setTop (mkF m 263 #[.val (.int p0), .val (.int p1), .val (.int p2), .val (.int p3), .val (.int ((p0 &&& (2147483647 : Int32)) % (9 : Int32))), .val (.ref o), .val (.int tg), .val (.int (3 : Int32)), .val (.ref b165), .val (.int (0 : Int32)), .val (.ref b_193)] [])) _
          refine XS.iconst X209.here hx rfl (hb hby at_263) ?_
          show Steps p.tables e below (T209.setTop (mkF m 264 #[.val (.int p0), .val (.int p1), .val (.int p2), .val (.int p3), .val (.int ((p0 &&& (2147483647 : Int32)) % (9 : Int32))), .val (.ref o), .val (.int tg), .val (.int (3 : Int32)), .val (.ref b165), .val (.int (0 : Int32)), .val (.ref b_193)] [(.int (1 : Int32))])) _
          refine XS.goto X209.here hx rfl (pc0 := 264) (pc' := 268) rfl (hb hby at_264) (by decide) (by decide) ?_
          show Steps p.tables e below (T209.setTop (mkF m 268 #[.val (.int p0), .val (.int p1), .val (.int p2), .val (.int p3), .val (.int ((p0 &&& (2147483647 : Int32)) % (9 : Int32))), .val (.ref o), .val (.int tg), .val (.int (3 : Int32)), .val (.ref b165), .val (.int (0 : Int32)), .val (.ref b_193)] [(.int (1 : Int32))])) _
          exact retN X209 hx (t := .boolean) Bd.returns (by simp) (hb hby at_268) hr
        · show Q0 Z p0 p1 p2 p3 o0 o1 o2 o3 o4 o5 o6 o7 o8 h0 n0 _ T209.heap _
          rw [e209]
          exact ⟨rfl, N209⟩
  · have pre32 : ∀ t, Steps p.tables e below (s₁.setTop (mkF m 11 #[.val (.int p0), .val (.int p1), .val (.int p2), .val (.int p3), .val (.int ((p0 &&& (2147483647 : Int32)) % (9 : Int32))), .unset, .unset, .unset, .unset, .unset, .unset] [(.int ((p0 &&& (2147483647 : Int32)) % (9 : Int32)))])) t → Steps p.tables e below (s₁.setTop (entryFrame m #[(.int p0), (.int p1), (.int p2), (.int p3)] maxLocals)) t := fun t k => by
      refine pre0 _ ?_
      show Steps p.tables e below (s₁.setTop (mkF m 0 #[.val (.int p0), .val (.int p1), .val (.int p2), .val (.int p3), .unset, .unset, .unset, .unset, .unset, .unset, .unset] [])) _
      refine XS.iloadN X0.here hx rfl (hb hby at_0) rfl ?_
      show Steps p.tables e below (s₁.setTop (mkF m 1 #[.val (.int p0), .val (.int p1), .val (.int p2), .val (.int p3), .unset, .unset, .unset, .unset, .unset, .unset, .unset] [(.int p0)])) _
      refine X0.ldcInt hx hown (mvT hZ (hw _ (List.mem_of_getElem? (i := 0) rfl))) (g := (mkF m 1 #[.val (.int p0), .val (.int p1), .val (.int p2), .val (.int p3), .unset, .unset, .unset, .unset, .unset, .unset, .unset] [(.int p0)])) rfl (hb hby at_1) _ ?_
      show Steps p.tables e below (s₁.setTop (mkF m 3 #[.val (.int p0), .val (.int p1), .val (.int p2), .val (.int p3), .unset, .unset, .unset, .unset, .unset, .unset, .unset] [(.int (2147483647 : Int32)), (.int p0)])) _
      refine XS.iand X0.here hx rfl (hb hby at_3) rfl ?_
      show Steps p.tables e below (s₁.setTop (mkF m 4 #[.val (.int p0), .val (.int p1), .val (.int p2), .val (.int p3), .unset, .unset, .unset, .unset, .unset, .unset, .unset] [(.int (p0 &&& (2147483647 : Int32)))])) _
      refine XS.bipush X0.here hx rfl (hb hby at_4) ?_
      show Steps p.tables e below (s₁.setTop (mkF m 6 #[.val (.int p0), .val (.int p1), .val (.int p2), .val (.int p3), .unset, .unset, .unset, .unset, .unset, .unset, .unset] [(.int (9 : Int32)), (.int (p0 &&& (2147483647 : Int32)))])) _
      refine iremM (g := (mkF m 6 #[.val (.int p0), .val (.int p1), .val (.int p2), .val (.int p3), .unset, .unset, .unset, .unset, .unset, .unset, .unset] [(.int (9 : Int32)), (.int (p0 &&& (2147483647 : Int32)))])) X0 hx rfl (hb hby at_6) rfl (by decide) ?_
      show Steps p.tables e below (s₁.setTop (mkF m 7 #[.val (.int p0), .val (.int p1), .val (.int p2), .val (.int p3), .unset, .unset, .unset, .unset, .unset, .unset, .unset] [(.int ((p0 &&& (2147483647 : Int32)) % (9 : Int32)))])) _
      refine XS.istore X0.here hx rfl (hb hby at_7) rfl (l' := #[.val (.int p0), .val (.int p1), .val (.int p2), .val (.int p3), .val (.int ((p0 &&& (2147483647 : Int32)) % (9 : Int32))), .unset, .unset, .unset, .unset, .unset, .unset]) rfl ?_
      show Steps p.tables e below (s₁.setTop (mkF m 9 #[.val (.int p0), .val (.int p1), .val (.int p2), .val (.int p3), .val (.int ((p0 &&& (2147483647 : Int32)) % (9 : Int32))), .unset, .unset, .unset, .unset, .unset, .unset] [])) _
      refine XS.iload X0.here hx rfl (hb hby at_9) rfl ?_
      exact k
    by_cases hc11 : ((p0 &&& (2147483647 : Int32)) % (9 : Int32)) = (0 : Int32)
    · obtain ⟨T33, X33, e33, st33⟩ := getS2 X0 hx hZ hown (host := "") (Or.inl (hw _ (List.mem_of_getElem? (i := 1) rfl))) Via.refl e0 S_ACCOUNT (g := (mkF m 14 #[.val (.int p0), .val (.int p1), .val (.int p2), .val (.int p3), .val (.int ((p0 &&& (2147483647 : Int32)) % (9 : Int32))), .unset, .unset, .unset, .unset, .unset, .unset] [])) rfl (hb hby at_14)
      have pre34 : ∀ t, Steps p.tables e below (T33.setTop (mkF m 163 #[.val (.int p0), .val (.int p1), .val (.int p2), .val (.int p3), .val (.int ((p0 &&& (2147483647 : Int32)) % (9 : Int32))), .val (.ref o0), .val (.int (97 : Int32)), .unset, .unset, .unset, .unset] [])) t → Steps p.tables e below (s₁.setTop (entryFrame m #[(.int p0), (.int p1), (.int p2), (.int p3)] maxLocals)) t := fun t k => by
        refine pre32 _ ?_
        show Steps p.tables e below (s₁.setTop (mkF m 11 #[.val (.int p0), .val (.int p1), .val (.int p2), .val (.int p3), .val (.int ((p0 &&& (2147483647 : Int32)) % (9 : Int32))), .unset, .unset, .unset, .unset, .unset, .unset] [(.int ((p0 &&& (2147483647 : Int32)) % (9 : Int32)))])) _
        refine XS.ifNo X0.here hx rfl (hb hby at_11) rfl ((if0 _ _).trans (teq hc11).2) ?_
        show Steps p.tables e below (s₁.setTop (mkF m 14 #[.val (.int p0), .val (.int p1), .val (.int p2), .val (.int p3), .val (.int ((p0 &&& (2147483647 : Int32)) % (9 : Int32))), .unset, .unset, .unset, .unset, .unset, .unset] [])) _
        refine st33 _ ?_
        show Steps p.tables e below (T33.setTop (mkF m 17 #[.val (.int p0), .val (.int p1), .val (.int p2), .val (.int p3), .val (.int ((p0 &&& (2147483647 : Int32)) % (9 : Int32))), .unset, .unset, .unset, .unset, .unset, .unset] [(.ref o0)])) _
        refine XS.astore X33.here hx rfl (hb hby at_17) rfl rfl (l' := #[.val (.int p0), .val (.int p1), .val (.int p2), .val (.int p3), .val (.int ((p0 &&& (2147483647 : Int32)) % (9 : Int32))), .val (.ref o0), .unset, .unset, .unset, .unset, .unset]) rfl ?_
        show Steps p.tables e below (T33.setTop (mkF m 19 #[.val (.int p0), .val (.int p1), .val (.int p2), .val (.int p3), .val (.int ((p0 &&& (2147483647 : Int32)) % (9 : Int32))), .val (.ref o0), .unset, .unset, .unset, .unset, .unset] [])) _
        refine XS.bipush X33.here hx rfl (hb hby at_19) ?_
        show Steps p.tables e below (T33.setTop (mkF m 21 #[.val (.int p0), .val (.int p1), .val (.int p2), .val (.int p3), .val (.int ((p0 &&& (2147483647 : Int32)) % (9 : Int32))), .val (.ref o0), .unset, .unset, .unset, .unset, .unset] [(.int (97 : Int32))])) _
        refine XS.istore X33.here hx rfl (hb hby at_21) rfl (l' := #[.val (.int p0), .val (.int p1), .val (.int p2), .val (.int p3), .val (.int ((p0 &&& (2147483647 : Int32)) % (9 : Int32))), .val (.ref o0), .val (.int (97 : Int32)), .unset, .unset, .unset, .unset]) rfl ?_
        show Steps p.tables e below (T33.setTop (mkF m 23 #[.val (.int p0), .val (.int p1), .val (.int p2), .val (.int p3), .val (.int ((p0 &&& (2147483647 : Int32)) % (9 : Int32))), .val (.ref o0), .val (.int (97 : Int32)), .unset, .unset, .unset, .unset] [])) _
        refine XS.goto X33.here hx rfl (pc0 := 23) (pc' := 163) rfl (hb hby at_23) (by decide) (by decide) ?_
        exact k
      exact ⟨o0, (97 : Int32), T33, X33, e33, pre34, E_o0, F_o0_tag, (by decide)⟩
    · have pre35 : ∀ t, Steps p.tables e below (s₁.setTop (mkF m 29 #[.val (.int p0), .val (.int p1), .val (.int p2), .val (.int p3), .val (.int ((p0 &&& (2147483647 : Int32)) % (9 : Int32))), .unset, .unset, .unset, .unset, .unset, .unset] [(.int (1 : Int32)), (.int ((p0 &&& (2147483647 : Int32)) % (9 : Int32)))])) t → Steps p.tables e below (s₁.setTop (entryFrame m #[(.int p0), (.int p1), (.int p2), (.int p3)] maxLocals)) t := fun t k => by
        refine pre32 _ ?_
        show Steps p.tables e below (s₁.setTop (mkF m 11 #[.val (.int p0), .val (.int p1), .val (.int p2), .val (.int p3), .val (.int ((p0 &&& (2147483647 : Int32)) % (9 : Int32))), .unset, .unset, .unset, .unset, .unset, .unset] [(.int ((p0 &&& (2147483647 : Int32)) % (9 : Int32)))])) _
        refine XS.ifYes X0.here hx rfl (pc0 := 11) (pc' := 26) rfl (hb hby at_11) rfl ((if0 _ _).trans (feq hc11).2) (by decide) (by decide) ?_
        show Steps p.tables e below (s₁.setTop (mkF m 26 #[.val (.int p0), .val (.int p1), .val (.int p2), .val (.int p3), .val (.int ((p0 &&& (2147483647 : Int32)) % (9 : Int32))), .unset, .unset, .unset, .unset, .unset, .unset] [])) _
        refine XS.iload X0.here hx rfl (hb hby at_26) rfl ?_
        show Steps p.tables e below (s₁.setTop (mkF m 28 #[.val (.int p0), .val (.int p1), .val (.int p2), .val (.int p3), .val (.int ((p0 &&& (2147483647 : Int32)) % (9 : Int32))), .unset, .unset, .unset, .unset, .unset, .unset] [(.int ((p0 &&& (2147483647 : Int32)) % (9 : Int32)))])) _
        refine XS.iconst X0.here hx rfl (hb hby at_28) ?_
        exact k
      by_cases hc29 : ((p0 &&& (2147483647 : Int32)) % (9 : Int32)) = (1 : Int32)
      · obtain ⟨T36, X36, e36, st36⟩ := getS2 X0 hx hZ hown (host := "") (Or.inl (hw _ (List.mem_of_getElem? (i := 21) rfl))) Via.refl e0 S_TOTALS (g := (mkF m 32 #[.val (.int p0), .val (.int p1), .val (.int p2), .val (.int p3), .val (.int ((p0 &&& (2147483647 : Int32)) % (9 : Int32))), .unset, .unset, .unset, .unset, .unset, .unset] [])) rfl (hb hby at_32)
        have pre37 : ∀ t, Steps p.tables e below (T36.setTop (mkF m 163 #[.val (.int p0), .val (.int p1), .val (.int p2), .val (.int p3), .val (.int ((p0 &&& (2147483647 : Int32)) % (9 : Int32))), .val (.ref o1), .val (.int (98 : Int32)), .unset, .unset, .unset, .unset] [])) t → Steps p.tables e below (s₁.setTop (entryFrame m #[(.int p0), (.int p1), (.int p2), (.int p3)] maxLocals)) t := fun t k => by
          refine pre35 _ ?_
          show Steps p.tables e below (s₁.setTop (mkF m 29 #[.val (.int p0), .val (.int p1), .val (.int p2), .val (.int p3), .val (.int ((p0 &&& (2147483647 : Int32)) % (9 : Int32))), .unset, .unset, .unset, .unset, .unset, .unset] [(.int (1 : Int32)), (.int ((p0 &&& (2147483647 : Int32)) % (9 : Int32)))])) _
          refine XS.icmpNo X0.here hx rfl (hb hby at_29) rfl (teq hc29).2 ?_
          show Steps p.tables e below (s₁.setTop (mkF m 32 #[.val (.int p0), .val (.int p1), .val (.int p2), .val (.int p3), .val (.int ((p0 &&& (2147483647 : Int32)) % (9 : Int32))), .unset, .unset, .unset, .unset, .unset, .unset] [])) _
          refine st36 _ ?_
          show Steps p.tables e below (T36.setTop (mkF m 35 #[.val (.int p0), .val (.int p1), .val (.int p2), .val (.int p3), .val (.int ((p0 &&& (2147483647 : Int32)) % (9 : Int32))), .unset, .unset, .unset, .unset, .unset, .unset] [(.ref o1)])) _
          refine XS.astore X36.here hx rfl (hb hby at_35) rfl rfl (l' := #[.val (.int p0), .val (.int p1), .val (.int p2), .val (.int p3), .val (.int ((p0 &&& (2147483647 : Int32)) % (9 : Int32))), .val (.ref o1), .unset, .unset, .unset, .unset, .unset]) rfl ?_
          show Steps p.tables e below (T36.setTop (mkF m 37 #[.val (.int p0), .val (.int p1), .val (.int p2), .val (.int p3), .val (.int ((p0 &&& (2147483647 : Int32)) % (9 : Int32))), .val (.ref o1), .unset, .unset, .unset, .unset, .unset] [])) _
          refine XS.bipush X36.here hx rfl (hb hby at_37) ?_
          show Steps p.tables e below (T36.setTop (mkF m 39 #[.val (.int p0), .val (.int p1), .val (.int p2), .val (.int p3), .val (.int ((p0 &&& (2147483647 : Int32)) % (9 : Int32))), .val (.ref o1), .unset, .unset, .unset, .unset, .unset] [(.int (98 : Int32))])) _
          refine XS.istore X36.here hx rfl (hb hby at_39) rfl (l' := #[.val (.int p0), .val (.int p1), .val (.int p2), .val (.int p3), .val (.int ((p0 &&& (2147483647 : Int32)) % (9 : Int32))), .val (.ref o1), .val (.int (98 : Int32)), .unset, .unset, .unset, .unset]) rfl ?_
          show Steps p.tables e below (T36.setTop (mkF m 41 #[.val (.int p0), .val (.int p1), .val (.int p2), .val (.int p3), .val (.int ((p0 &&& (2147483647 : Int32)) % (9 : Int32))), .val (.ref o1), .val (.int (98 : Int32)), .unset, .unset, .unset, .unset] [])) _
          refine XS.goto X36.here hx rfl (pc0 := 41) (pc' := 163) rfl (hb hby at_41) (by decide) (by decide) ?_
          exact k
        exact ⟨o1, (98 : Int32), T36, X36, e36, pre37, E_o1, F_o1_tag, (by decide)⟩
      · have pre38 : ∀ t, Steps p.tables e below (s₁.setTop (mkF m 47 #[.val (.int p0), .val (.int p1), .val (.int p2), .val (.int p3), .val (.int ((p0 &&& (2147483647 : Int32)) % (9 : Int32))), .unset, .unset, .unset, .unset, .unset, .unset] [(.int (2 : Int32)), (.int ((p0 &&& (2147483647 : Int32)) % (9 : Int32)))])) t → Steps p.tables e below (s₁.setTop (entryFrame m #[(.int p0), (.int p1), (.int p2), (.int p3)] maxLocals)) t := fun t k => by
          refine pre35 _ ?_
          show Steps p.tables e below (s₁.setTop (mkF m 29 #[.val (.int p0), .val (.int p1), .val (.int p2), .val (.int p3), .val (.int ((p0 &&& (2147483647 : Int32)) % (9 : Int32))), .unset, .unset, .unset, .unset, .unset, .unset] [(.int (1 : Int32)), (.int ((p0 &&& (2147483647 : Int32)) % (9 : Int32)))])) _
          refine XS.icmpYes X0.here hx rfl (pc0 := 29) (pc' := 44) rfl (hb hby at_29) rfl (feq hc29).2 (by decide) (by decide) ?_
          show Steps p.tables e below (s₁.setTop (mkF m 44 #[.val (.int p0), .val (.int p1), .val (.int p2), .val (.int p3), .val (.int ((p0 &&& (2147483647 : Int32)) % (9 : Int32))), .unset, .unset, .unset, .unset, .unset, .unset] [])) _
          refine XS.iload X0.here hx rfl (hb hby at_44) rfl ?_
          show Steps p.tables e below (s₁.setTop (mkF m 46 #[.val (.int p0), .val (.int p1), .val (.int p2), .val (.int p3), .val (.int ((p0 &&& (2147483647 : Int32)) % (9 : Int32))), .unset, .unset, .unset, .unset, .unset, .unset] [(.int ((p0 &&& (2147483647 : Int32)) % (9 : Int32)))])) _
          refine XS.iconst X0.here hx rfl (hb hby at_46) ?_
          exact k
        by_cases hc47 : ((p0 &&& (2147483647 : Int32)) % (9 : Int32)) = (2 : Int32)
        · obtain ⟨T39, X39, e39, st39⟩ := getS2 X0 hx hZ hown (host := "") (Or.inl (hw _ (List.mem_of_getElem? (i := 23) rfl))) Via.refl e0 S_TRANSACTION (g := (mkF m 50 #[.val (.int p0), .val (.int p1), .val (.int p2), .val (.int p3), .val (.int ((p0 &&& (2147483647 : Int32)) % (9 : Int32))), .unset, .unset, .unset, .unset, .unset, .unset] [])) rfl (hb hby at_50)
          have pre40 : ∀ t, Steps p.tables e below (T39.setTop (mkF m 163 #[.val (.int p0), .val (.int p1), .val (.int p2), .val (.int p3), .val (.int ((p0 &&& (2147483647 : Int32)) % (9 : Int32))), .val (.ref o2), .val (.int (116 : Int32)), .unset, .unset, .unset, .unset] [])) t → Steps p.tables e below (s₁.setTop (entryFrame m #[(.int p0), (.int p1), (.int p2), (.int p3)] maxLocals)) t := fun t k => by
            refine pre38 _ ?_
            show Steps p.tables e below (s₁.setTop (mkF m 47 #[.val (.int p0), .val (.int p1), .val (.int p2), .val (.int p3), .val (.int ((p0 &&& (2147483647 : Int32)) % (9 : Int32))), .unset, .unset, .unset, .unset, .unset, .unset] [(.int (2 : Int32)), (.int ((p0 &&& (2147483647 : Int32)) % (9 : Int32)))])) _
            refine XS.icmpNo X0.here hx rfl (hb hby at_47) rfl (teq hc47).2 ?_
            show Steps p.tables e below (s₁.setTop (mkF m 50 #[.val (.int p0), .val (.int p1), .val (.int p2), .val (.int p3), .val (.int ((p0 &&& (2147483647 : Int32)) % (9 : Int32))), .unset, .unset, .unset, .unset, .unset, .unset] [])) _
            refine st39 _ ?_
            show Steps p.tables e below (T39.setTop (mkF m 53 #[.val (.int p0), .val (.int p1), .val (.int p2), .val (.int p3), .val (.int ((p0 &&& (2147483647 : Int32)) % (9 : Int32))), .unset, .unset, .unset, .unset, .unset, .unset] [(.ref o2)])) _
            refine XS.astore X39.here hx rfl (hb hby at_53) rfl rfl (l' := #[.val (.int p0), .val (.int p1), .val (.int p2), .val (.int p3), .val (.int ((p0 &&& (2147483647 : Int32)) % (9 : Int32))), .val (.ref o2), .unset, .unset, .unset, .unset, .unset]) rfl ?_
            show Steps p.tables e below (T39.setTop (mkF m 55 #[.val (.int p0), .val (.int p1), .val (.int p2), .val (.int p3), .val (.int ((p0 &&& (2147483647 : Int32)) % (9 : Int32))), .val (.ref o2), .unset, .unset, .unset, .unset, .unset] [])) _
            refine XS.bipush X39.here hx rfl (hb hby at_55) ?_
            show Steps p.tables e below (T39.setTop (mkF m 57 #[.val (.int p0), .val (.int p1), .val (.int p2), .val (.int p3), .val (.int ((p0 &&& (2147483647 : Int32)) % (9 : Int32))), .val (.ref o2), .unset, .unset, .unset, .unset, .unset] [(.int (116 : Int32))])) _
            refine XS.istore X39.here hx rfl (hb hby at_57) rfl (l' := #[.val (.int p0), .val (.int p1), .val (.int p2), .val (.int p3), .val (.int ((p0 &&& (2147483647 : Int32)) % (9 : Int32))), .val (.ref o2), .val (.int (116 : Int32)), .unset, .unset, .unset, .unset]) rfl ?_
            show Steps p.tables e below (T39.setTop (mkF m 59 #[.val (.int p0), .val (.int p1), .val (.int p2), .val (.int p3), .val (.int ((p0 &&& (2147483647 : Int32)) % (9 : Int32))), .val (.ref o2), .val (.int (116 : Int32)), .unset, .unset, .unset, .unset] [])) _
            refine XS.goto X39.here hx rfl (pc0 := 59) (pc' := 163) rfl (hb hby at_59) (by decide) (by decide) ?_
            exact k
          exact ⟨o2, (116 : Int32), T39, X39, e39, pre40, E_o2, F_o2_tag, (by decide)⟩
        · have pre41 : ∀ t, Steps p.tables e below (s₁.setTop (mkF m 65 #[.val (.int p0), .val (.int p1), .val (.int p2), .val (.int p3), .val (.int ((p0 &&& (2147483647 : Int32)) % (9 : Int32))), .unset, .unset, .unset, .unset, .unset, .unset] [(.int (3 : Int32)), (.int ((p0 &&& (2147483647 : Int32)) % (9 : Int32)))])) t → Steps p.tables e below (s₁.setTop (entryFrame m #[(.int p0), (.int p1), (.int p2), (.int p3)] maxLocals)) t := fun t k => by
            refine pre38 _ ?_
            show Steps p.tables e below (s₁.setTop (mkF m 47 #[.val (.int p0), .val (.int p1), .val (.int p2), .val (.int p3), .val (.int ((p0 &&& (2147483647 : Int32)) % (9 : Int32))), .unset, .unset, .unset, .unset, .unset, .unset] [(.int (2 : Int32)), (.int ((p0 &&& (2147483647 : Int32)) % (9 : Int32)))])) _
            refine XS.icmpYes X0.here hx rfl (pc0 := 47) (pc' := 62) rfl (hb hby at_47) rfl (feq hc47).2 (by decide) (by decide) ?_
            show Steps p.tables e below (s₁.setTop (mkF m 62 #[.val (.int p0), .val (.int p1), .val (.int p2), .val (.int p3), .val (.int ((p0 &&& (2147483647 : Int32)) % (9 : Int32))), .unset, .unset, .unset, .unset, .unset, .unset] [])) _
            refine XS.iload X0.here hx rfl (hb hby at_62) rfl ?_
            show Steps p.tables e below (s₁.setTop (mkF m 64 #[.val (.int p0), .val (.int p1), .val (.int p2), .val (.int p3), .val (.int ((p0 &&& (2147483647 : Int32)) % (9 : Int32))), .unset, .unset, .unset, .unset, .unset, .unset] [(.int ((p0 &&& (2147483647 : Int32)) % (9 : Int32)))])) _
            refine XS.iconst X0.here hx rfl (hb hby at_64) ?_
            exact k
          by_cases hc65 : ((p0 &&& (2147483647 : Int32)) % (9 : Int32)) = (3 : Int32)
          · obtain ⟨T42, X42, e42, st42⟩ := getS2 X0 hx hZ hown (host := "") (Or.inl (hw _ (List.mem_of_getElem? (i := 17) rfl))) Via.refl e0 S_ID (g := (mkF m 68 #[.val (.int p0), .val (.int p1), .val (.int p2), .val (.int p3), .val (.int ((p0 &&& (2147483647 : Int32)) % (9 : Int32))), .unset, .unset, .unset, .unset, .unset, .unset] [])) rfl (hb hby at_68)
            have pre43 : ∀ t, Steps p.tables e below (T42.setTop (mkF m 163 #[.val (.int p0), .val (.int p1), .val (.int p2), .val (.int p3), .val (.int ((p0 &&& (2147483647 : Int32)) % (9 : Int32))), .val (.ref o3), .val (.int (105 : Int32)), .unset, .unset, .unset, .unset] [])) t → Steps p.tables e below (s₁.setTop (entryFrame m #[(.int p0), (.int p1), (.int p2), (.int p3)] maxLocals)) t := fun t k => by
              refine pre41 _ ?_
              show Steps p.tables e below (s₁.setTop (mkF m 65 #[.val (.int p0), .val (.int p1), .val (.int p2), .val (.int p3), .val (.int ((p0 &&& (2147483647 : Int32)) % (9 : Int32))), .unset, .unset, .unset, .unset, .unset, .unset] [(.int (3 : Int32)), (.int ((p0 &&& (2147483647 : Int32)) % (9 : Int32)))])) _
              refine XS.icmpNo X0.here hx rfl (hb hby at_65) rfl (teq hc65).2 ?_
              show Steps p.tables e below (s₁.setTop (mkF m 68 #[.val (.int p0), .val (.int p1), .val (.int p2), .val (.int p3), .val (.int ((p0 &&& (2147483647 : Int32)) % (9 : Int32))), .unset, .unset, .unset, .unset, .unset, .unset] [])) _
              refine st42 _ ?_
              show Steps p.tables e below (T42.setTop (mkF m 71 #[.val (.int p0), .val (.int p1), .val (.int p2), .val (.int p3), .val (.int ((p0 &&& (2147483647 : Int32)) % (9 : Int32))), .unset, .unset, .unset, .unset, .unset, .unset] [(.ref o3)])) _
              refine XS.astore X42.here hx rfl (hb hby at_71) rfl rfl (l' := #[.val (.int p0), .val (.int p1), .val (.int p2), .val (.int p3), .val (.int ((p0 &&& (2147483647 : Int32)) % (9 : Int32))), .val (.ref o3), .unset, .unset, .unset, .unset, .unset]) rfl ?_
              show Steps p.tables e below (T42.setTop (mkF m 73 #[.val (.int p0), .val (.int p1), .val (.int p2), .val (.int p3), .val (.int ((p0 &&& (2147483647 : Int32)) % (9 : Int32))), .val (.ref o3), .unset, .unset, .unset, .unset, .unset] [])) _
              refine XS.bipush X42.here hx rfl (hb hby at_73) ?_
              show Steps p.tables e below (T42.setTop (mkF m 75 #[.val (.int p0), .val (.int p1), .val (.int p2), .val (.int p3), .val (.int ((p0 &&& (2147483647 : Int32)) % (9 : Int32))), .val (.ref o3), .unset, .unset, .unset, .unset, .unset] [(.int (105 : Int32))])) _
              refine XS.istore X42.here hx rfl (hb hby at_75) rfl (l' := #[.val (.int p0), .val (.int p1), .val (.int p2), .val (.int p3), .val (.int ((p0 &&& (2147483647 : Int32)) % (9 : Int32))), .val (.ref o3), .val (.int (105 : Int32)), .unset, .unset, .unset, .unset]) rfl ?_
              show Steps p.tables e below (T42.setTop (mkF m 77 #[.val (.int p0), .val (.int p1), .val (.int p2), .val (.int p3), .val (.int ((p0 &&& (2147483647 : Int32)) % (9 : Int32))), .val (.ref o3), .val (.int (105 : Int32)), .unset, .unset, .unset, .unset] [])) _
              refine XS.goto X42.here hx rfl (pc0 := 77) (pc' := 163) rfl (hb hby at_77) (by decide) (by decide) ?_
              exact k
            exact ⟨o3, (105 : Int32), T42, X42, e42, pre43, E_o3, F_o3_tag, (by decide)⟩
          · have pre44 : ∀ t, Steps p.tables e below (s₁.setTop (mkF m 83 #[.val (.int p0), .val (.int p1), .val (.int p2), .val (.int p3), .val (.int ((p0 &&& (2147483647 : Int32)) % (9 : Int32))), .unset, .unset, .unset, .unset, .unset, .unset] [(.int (4 : Int32)), (.int ((p0 &&& (2147483647 : Int32)) % (9 : Int32)))])) t → Steps p.tables e below (s₁.setTop (entryFrame m #[(.int p0), (.int p1), (.int p2), (.int p3)] maxLocals)) t := fun t k => by
              refine pre41 _ ?_
              show Steps p.tables e below (s₁.setTop (mkF m 65 #[.val (.int p0), .val (.int p1), .val (.int p2), .val (.int p3), .val (.int ((p0 &&& (2147483647 : Int32)) % (9 : Int32))), .unset, .unset, .unset, .unset, .unset, .unset] [(.int (3 : Int32)), (.int ((p0 &&& (2147483647 : Int32)) % (9 : Int32)))])) _
              refine XS.icmpYes X0.here hx rfl (pc0 := 65) (pc' := 80) rfl (hb hby at_65) rfl (feq hc65).2 (by decide) (by decide) ?_
              show Steps p.tables e below (s₁.setTop (mkF m 80 #[.val (.int p0), .val (.int p1), .val (.int p2), .val (.int p3), .val (.int ((p0 &&& (2147483647 : Int32)) % (9 : Int32))), .unset, .unset, .unset, .unset, .unset, .unset] [])) _
              refine XS.iload X0.here hx rfl (hb hby at_80) rfl ?_
              show Steps p.tables e below (s₁.setTop (mkF m 82 #[.val (.int p0), .val (.int p1), .val (.int p2), .val (.int p3), .val (.int ((p0 &&& (2147483647 : Int32)) % (9 : Int32))), .unset, .unset, .unset, .unset, .unset, .unset] [(.int ((p0 &&& (2147483647 : Int32)) % (9 : Int32)))])) _
              refine XS.iconst X0.here hx rfl (hb hby at_82) ?_
              exact k
            by_cases hc83 : ((p0 &&& (2147483647 : Int32)) % (9 : Int32)) = (4 : Int32)
            · obtain ⟨T45, X45, e45, st45⟩ := getS2 X0 hx hZ hown (host := "") (Or.inl (hw _ (List.mem_of_getElem? (i := 27) rfl))) Via.refl e0 S_REVERSAL (g := (mkF m 86 #[.val (.int p0), .val (.int p1), .val (.int p2), .val (.int p3), .val (.int ((p0 &&& (2147483647 : Int32)) % (9 : Int32))), .unset, .unset, .unset, .unset, .unset, .unset] [])) rfl (hb hby at_86)
              have pre46 : ∀ t, Steps p.tables e below (T45.setTop (mkF m 163 #[.val (.int p0), .val (.int p1), .val (.int p2), .val (.int p3), .val (.int ((p0 &&& (2147483647 : Int32)) % (9 : Int32))), .val (.ref o4), .val (.int (114 : Int32)), .unset, .unset, .unset, .unset] [])) t → Steps p.tables e below (s₁.setTop (entryFrame m #[(.int p0), (.int p1), (.int p2), (.int p3)] maxLocals)) t := fun t k => by
                refine pre44 _ ?_
                show Steps p.tables e below (s₁.setTop (mkF m 83 #[.val (.int p0), .val (.int p1), .val (.int p2), .val (.int p3), .val (.int ((p0 &&& (2147483647 : Int32)) % (9 : Int32))), .unset, .unset, .unset, .unset, .unset, .unset] [(.int (4 : Int32)), (.int ((p0 &&& (2147483647 : Int32)) % (9 : Int32)))])) _
                refine XS.icmpNo X0.here hx rfl (hb hby at_83) rfl (teq hc83).2 ?_
                show Steps p.tables e below (s₁.setTop (mkF m 86 #[.val (.int p0), .val (.int p1), .val (.int p2), .val (.int p3), .val (.int ((p0 &&& (2147483647 : Int32)) % (9 : Int32))), .unset, .unset, .unset, .unset, .unset, .unset] [])) _
                refine st45 _ ?_
                show Steps p.tables e below (T45.setTop (mkF m 89 #[.val (.int p0), .val (.int p1), .val (.int p2), .val (.int p3), .val (.int ((p0 &&& (2147483647 : Int32)) % (9 : Int32))), .unset, .unset, .unset, .unset, .unset, .unset] [(.ref o4)])) _
                refine XS.astore X45.here hx rfl (hb hby at_89) rfl rfl (l' := #[.val (.int p0), .val (.int p1), .val (.int p2), .val (.int p3), .val (.int ((p0 &&& (2147483647 : Int32)) % (9 : Int32))), .val (.ref o4), .unset, .unset, .unset, .unset, .unset]) rfl ?_
                show Steps p.tables e below (T45.setTop (mkF m 91 #[.val (.int p0), .val (.int p1), .val (.int p2), .val (.int p3), .val (.int ((p0 &&& (2147483647 : Int32)) % (9 : Int32))), .val (.ref o4), .unset, .unset, .unset, .unset, .unset] [])) _
                refine XS.bipush X45.here hx rfl (hb hby at_91) ?_
                show Steps p.tables e below (T45.setTop (mkF m 93 #[.val (.int p0), .val (.int p1), .val (.int p2), .val (.int p3), .val (.int ((p0 &&& (2147483647 : Int32)) % (9 : Int32))), .val (.ref o4), .unset, .unset, .unset, .unset, .unset] [(.int (114 : Int32))])) _
                refine XS.istore X45.here hx rfl (hb hby at_93) rfl (l' := #[.val (.int p0), .val (.int p1), .val (.int p2), .val (.int p3), .val (.int ((p0 &&& (2147483647 : Int32)) % (9 : Int32))), .val (.ref o4), .val (.int (114 : Int32)), .unset, .unset, .unset, .unset]) rfl ?_
                show Steps p.tables e below (T45.setTop (mkF m 95 #[.val (.int p0), .val (.int p1), .val (.int p2), .val (.int p3), .val (.int ((p0 &&& (2147483647 : Int32)) % (9 : Int32))), .val (.ref o4), .val (.int (114 : Int32)), .unset, .unset, .unset, .unset] [])) _
                refine XS.goto X45.here hx rfl (pc0 := 95) (pc' := 163) rfl (hb hby at_95) (by decide) (by decide) ?_
                exact k
              exact ⟨o4, (114 : Int32), T45, X45, e45, pre46, E_o4, F_o4_tag, (by decide)⟩
            · have pre47 : ∀ t, Steps p.tables e below (s₁.setTop (mkF m 101 #[.val (.int p0), .val (.int p1), .val (.int p2), .val (.int p3), .val (.int ((p0 &&& (2147483647 : Int32)) % (9 : Int32))), .unset, .unset, .unset, .unset, .unset, .unset] [(.int (5 : Int32)), (.int ((p0 &&& (2147483647 : Int32)) % (9 : Int32)))])) t → Steps p.tables e below (s₁.setTop (entryFrame m #[(.int p0), (.int p1), (.int p2), (.int p3)] maxLocals)) t := fun t k => by
                refine pre44 _ ?_
                show Steps p.tables e below (s₁.setTop (mkF m 83 #[.val (.int p0), .val (.int p1), .val (.int p2), .val (.int p3), .val (.int ((p0 &&& (2147483647 : Int32)) % (9 : Int32))), .unset, .unset, .unset, .unset, .unset, .unset] [(.int (4 : Int32)), (.int ((p0 &&& (2147483647 : Int32)) % (9 : Int32)))])) _
                refine XS.icmpYes X0.here hx rfl (pc0 := 83) (pc' := 98) rfl (hb hby at_83) rfl (feq hc83).2 (by decide) (by decide) ?_
                show Steps p.tables e below (s₁.setTop (mkF m 98 #[.val (.int p0), .val (.int p1), .val (.int p2), .val (.int p3), .val (.int ((p0 &&& (2147483647 : Int32)) % (9 : Int32))), .unset, .unset, .unset, .unset, .unset, .unset] [])) _
                refine XS.iload X0.here hx rfl (hb hby at_98) rfl ?_
                show Steps p.tables e below (s₁.setTop (mkF m 100 #[.val (.int p0), .val (.int p1), .val (.int p2), .val (.int p3), .val (.int ((p0 &&& (2147483647 : Int32)) % (9 : Int32))), .unset, .unset, .unset, .unset, .unset, .unset] [(.int ((p0 &&& (2147483647 : Int32)) % (9 : Int32)))])) _
                refine XS.iconst X0.here hx rfl (hb hby at_100) ?_
                exact k
              by_cases hc101 : ((p0 &&& (2147483647 : Int32)) % (9 : Int32)) = (5 : Int32)
              · obtain ⟨T48, X48, e48, st48⟩ := getS2 X0 hx hZ hown (host := "") (Or.inl (hw _ (List.mem_of_getElem? (i := 29) rfl))) Via.refl e0 S_ENTRY (g := (mkF m 104 #[.val (.int p0), .val (.int p1), .val (.int p2), .val (.int p3), .val (.int ((p0 &&& (2147483647 : Int32)) % (9 : Int32))), .unset, .unset, .unset, .unset, .unset, .unset] [])) rfl (hb hby at_104)
                have pre49 : ∀ t, Steps p.tables e below (T48.setTop (mkF m 163 #[.val (.int p0), .val (.int p1), .val (.int p2), .val (.int p3), .val (.int ((p0 &&& (2147483647 : Int32)) % (9 : Int32))), .val (.ref o5), .val (.int (101 : Int32)), .unset, .unset, .unset, .unset] [])) t → Steps p.tables e below (s₁.setTop (entryFrame m #[(.int p0), (.int p1), (.int p2), (.int p3)] maxLocals)) t := fun t k => by
                  refine pre47 _ ?_
                  show Steps p.tables e below (s₁.setTop (mkF m 101 #[.val (.int p0), .val (.int p1), .val (.int p2), .val (.int p3), .val (.int ((p0 &&& (2147483647 : Int32)) % (9 : Int32))), .unset, .unset, .unset, .unset, .unset, .unset] [(.int (5 : Int32)), (.int ((p0 &&& (2147483647 : Int32)) % (9 : Int32)))])) _
                  refine XS.icmpNo X0.here hx rfl (hb hby at_101) rfl (teq hc101).2 ?_
                  show Steps p.tables e below (s₁.setTop (mkF m 104 #[.val (.int p0), .val (.int p1), .val (.int p2), .val (.int p3), .val (.int ((p0 &&& (2147483647 : Int32)) % (9 : Int32))), .unset, .unset, .unset, .unset, .unset, .unset] [])) _
                  refine st48 _ ?_
                  show Steps p.tables e below (T48.setTop (mkF m 107 #[.val (.int p0), .val (.int p1), .val (.int p2), .val (.int p3), .val (.int ((p0 &&& (2147483647 : Int32)) % (9 : Int32))), .unset, .unset, .unset, .unset, .unset, .unset] [(.ref o5)])) _
                  refine XS.astore X48.here hx rfl (hb hby at_107) rfl rfl (l' := #[.val (.int p0), .val (.int p1), .val (.int p2), .val (.int p3), .val (.int ((p0 &&& (2147483647 : Int32)) % (9 : Int32))), .val (.ref o5), .unset, .unset, .unset, .unset, .unset]) rfl ?_
                  show Steps p.tables e below (T48.setTop (mkF m 109 #[.val (.int p0), .val (.int p1), .val (.int p2), .val (.int p3), .val (.int ((p0 &&& (2147483647 : Int32)) % (9 : Int32))), .val (.ref o5), .unset, .unset, .unset, .unset, .unset] [])) _
                  refine XS.bipush X48.here hx rfl (hb hby at_109) ?_
                  show Steps p.tables e below (T48.setTop (mkF m 111 #[.val (.int p0), .val (.int p1), .val (.int p2), .val (.int p3), .val (.int ((p0 &&& (2147483647 : Int32)) % (9 : Int32))), .val (.ref o5), .unset, .unset, .unset, .unset, .unset] [(.int (101 : Int32))])) _
                  refine XS.istore X48.here hx rfl (hb hby at_111) rfl (l' := #[.val (.int p0), .val (.int p1), .val (.int p2), .val (.int p3), .val (.int ((p0 &&& (2147483647 : Int32)) % (9 : Int32))), .val (.ref o5), .val (.int (101 : Int32)), .unset, .unset, .unset, .unset]) rfl ?_
                  show Steps p.tables e below (T48.setTop (mkF m 113 #[.val (.int p0), .val (.int p1), .val (.int p2), .val (.int p3), .val (.int ((p0 &&& (2147483647 : Int32)) % (9 : Int32))), .val (.ref o5), .val (.int (101 : Int32)), .unset, .unset, .unset, .unset] [])) _
                  refine XS.goto X48.here hx rfl (pc0 := 113) (pc' := 163) rfl (hb hby at_113) (by decide) (by decide) ?_
                  exact k
                exact ⟨o5, (101 : Int32), T48, X48, e48, pre49, E_o5, F_o5_tag, (by decide)⟩
              · have pre50 : ∀ t, Steps p.tables e below (s₁.setTop (mkF m 120 #[.val (.int p0), .val (.int p1), .val (.int p2), .val (.int p3), .val (.int ((p0 &&& (2147483647 : Int32)) % (9 : Int32))), .unset, .unset, .unset, .unset, .unset, .unset] [(.int (6 : Int32)), (.int ((p0 &&& (2147483647 : Int32)) % (9 : Int32)))])) t → Steps p.tables e below (s₁.setTop (entryFrame m #[(.int p0), (.int p1), (.int p2), (.int p3)] maxLocals)) t := fun t k => by
                  refine pre47 _ ?_
                  show Steps p.tables e below (s₁.setTop (mkF m 101 #[.val (.int p0), .val (.int p1), .val (.int p2), .val (.int p3), .val (.int ((p0 &&& (2147483647 : Int32)) % (9 : Int32))), .unset, .unset, .unset, .unset, .unset, .unset] [(.int (5 : Int32)), (.int ((p0 &&& (2147483647 : Int32)) % (9 : Int32)))])) _
                  refine XS.icmpYes X0.here hx rfl (pc0 := 101) (pc' := 116) rfl (hb hby at_101) rfl (feq hc101).2 (by decide) (by decide) ?_
                  show Steps p.tables e below (s₁.setTop (mkF m 116 #[.val (.int p0), .val (.int p1), .val (.int p2), .val (.int p3), .val (.int ((p0 &&& (2147483647 : Int32)) % (9 : Int32))), .unset, .unset, .unset, .unset, .unset, .unset] [])) _
                  refine XS.iload X0.here hx rfl (hb hby at_116) rfl ?_
                  show Steps p.tables e below (s₁.setTop (mkF m 118 #[.val (.int p0), .val (.int p1), .val (.int p2), .val (.int p3), .val (.int ((p0 &&& (2147483647 : Int32)) % (9 : Int32))), .unset, .unset, .unset, .unset, .unset, .unset] [(.int ((p0 &&& (2147483647 : Int32)) % (9 : Int32)))])) _
                  refine XS.bipush X0.here hx rfl (hb hby at_118) ?_
                  exact k
                by_cases hc120 : ((p0 &&& (2147483647 : Int32)) % (9 : Int32)) = (6 : Int32)
                · obtain ⟨T51, X51, e51, st51⟩ := getS2 X0 hx hZ hown (host := "") (Or.inl (hw _ (List.mem_of_getElem? (i := 31) rfl))) Via.refl e0 S_UNIT (g := (mkF m 123 #[.val (.int p0), .val (.int p1), .val (.int p2), .val (.int p3), .val (.int ((p0 &&& (2147483647 : Int32)) % (9 : Int32))), .unset, .unset, .unset, .unset, .unset, .unset] [])) rfl (hb hby at_123)
                  have pre52 : ∀ t, Steps p.tables e below (T51.setTop (mkF m 163 #[.val (.int p0), .val (.int p1), .val (.int p2), .val (.int p3), .val (.int ((p0 &&& (2147483647 : Int32)) % (9 : Int32))), .val (.ref o6), .val (.int (117 : Int32)), .unset, .unset, .unset, .unset] [])) t → Steps p.tables e below (s₁.setTop (entryFrame m #[(.int p0), (.int p1), (.int p2), (.int p3)] maxLocals)) t := fun t k => by
                    refine pre50 _ ?_
                    show Steps p.tables e below (s₁.setTop (mkF m 120 #[.val (.int p0), .val (.int p1), .val (.int p2), .val (.int p3), .val (.int ((p0 &&& (2147483647 : Int32)) % (9 : Int32))), .unset, .unset, .unset, .unset, .unset, .unset] [(.int (6 : Int32)), (.int ((p0 &&& (2147483647 : Int32)) % (9 : Int32)))])) _
                    refine XS.icmpNo X0.here hx rfl (hb hby at_120) rfl (teq hc120).2 ?_
                    show Steps p.tables e below (s₁.setTop (mkF m 123 #[.val (.int p0), .val (.int p1), .val (.int p2), .val (.int p3), .val (.int ((p0 &&& (2147483647 : Int32)) % (9 : Int32))), .unset, .unset, .unset, .unset, .unset, .unset] [])) _
                    refine st51 _ ?_
                    show Steps p.tables e below (T51.setTop (mkF m 126 #[.val (.int p0), .val (.int p1), .val (.int p2), .val (.int p3), .val (.int ((p0 &&& (2147483647 : Int32)) % (9 : Int32))), .unset, .unset, .unset, .unset, .unset, .unset] [(.ref o6)])) _
                    refine XS.astore X51.here hx rfl (hb hby at_126) rfl rfl (l' := #[.val (.int p0), .val (.int p1), .val (.int p2), .val (.int p3), .val (.int ((p0 &&& (2147483647 : Int32)) % (9 : Int32))), .val (.ref o6), .unset, .unset, .unset, .unset, .unset]) rfl ?_
                    show Steps p.tables e below (T51.setTop (mkF m 128 #[.val (.int p0), .val (.int p1), .val (.int p2), .val (.int p3), .val (.int ((p0 &&& (2147483647 : Int32)) % (9 : Int32))), .val (.ref o6), .unset, .unset, .unset, .unset, .unset] [])) _
                    refine XS.bipush X51.here hx rfl (hb hby at_128) ?_
                    show Steps p.tables e below (T51.setTop (mkF m 130 #[.val (.int p0), .val (.int p1), .val (.int p2), .val (.int p3), .val (.int ((p0 &&& (2147483647 : Int32)) % (9 : Int32))), .val (.ref o6), .unset, .unset, .unset, .unset, .unset] [(.int (117 : Int32))])) _
                    refine XS.istore X51.here hx rfl (hb hby at_130) rfl (l' := #[.val (.int p0), .val (.int p1), .val (.int p2), .val (.int p3), .val (.int ((p0 &&& (2147483647 : Int32)) % (9 : Int32))), .val (.ref o6), .val (.int (117 : Int32)), .unset, .unset, .unset, .unset]) rfl ?_
                    show Steps p.tables e below (T51.setTop (mkF m 132 #[.val (.int p0), .val (.int p1), .val (.int p2), .val (.int p3), .val (.int ((p0 &&& (2147483647 : Int32)) % (9 : Int32))), .val (.ref o6), .val (.int (117 : Int32)), .unset, .unset, .unset, .unset] [])) _
                    refine XS.goto X51.here hx rfl (pc0 := 132) (pc' := 163) rfl (hb hby at_132) (by decide) (by decide) ?_
                    exact k
                  exact ⟨o6, (117 : Int32), T51, X51, e51, pre52, E_o6, F_o6_tag, (by decide)⟩
                · have pre53 : ∀ t, Steps p.tables e below (s₁.setTop (mkF m 139 #[.val (.int p0), .val (.int p1), .val (.int p2), .val (.int p3), .val (.int ((p0 &&& (2147483647 : Int32)) % (9 : Int32))), .unset, .unset, .unset, .unset, .unset, .unset] [(.int (7 : Int32)), (.int ((p0 &&& (2147483647 : Int32)) % (9 : Int32)))])) t → Steps p.tables e below (s₁.setTop (entryFrame m #[(.int p0), (.int p1), (.int p2), (.int p3)] maxLocals)) t := fun t k => by
                    refine pre50 _ ?_
                    show Steps p.tables e below (s₁.setTop (mkF m 120 #[.val (.int p0), .val (.int p1), .val (.int p2), .val (.int p3), .val (.int ((p0 &&& (2147483647 : Int32)) % (9 : Int32))), .unset, .unset, .unset, .unset, .unset, .unset] [(.int (6 : Int32)), (.int ((p0 &&& (2147483647 : Int32)) % (9 : Int32)))])) _
                    refine XS.icmpYes X0.here hx rfl (pc0 := 120) (pc' := 135) rfl (hb hby at_120) rfl (feq hc120).2 (by decide) (by decide) ?_
                    show Steps p.tables e below (s₁.setTop (mkF m 135 #[.val (.int p0), .val (.int p1), .val (.int p2), .val (.int p3), .val (.int ((p0 &&& (2147483647 : Int32)) % (9 : Int32))), .unset, .unset, .unset, .unset, .unset, .unset] [])) _
                    refine XS.iload X0.here hx rfl (hb hby at_135) rfl ?_
                    show Steps p.tables e below (s₁.setTop (mkF m 137 #[.val (.int p0), .val (.int p1), .val (.int p2), .val (.int p3), .val (.int ((p0 &&& (2147483647 : Int32)) % (9 : Int32))), .unset, .unset, .unset, .unset, .unset, .unset] [(.int ((p0 &&& (2147483647 : Int32)) % (9 : Int32)))])) _
                    refine XS.bipush X0.here hx rfl (hb hby at_137) ?_
                    exact k
                  by_cases hc139 : ((p0 &&& (2147483647 : Int32)) % (9 : Int32)) = (7 : Int32)
                  · obtain ⟨T54, X54, e54, st54⟩ := getS2 X0 hx hZ hown (host := "") (Or.inl (hw _ (List.mem_of_getElem? (i := 19) rfl))) Via.refl e0 S_TENANT (g := (mkF m 142 #[.val (.int p0), .val (.int p1), .val (.int p2), .val (.int p3), .val (.int ((p0 &&& (2147483647 : Int32)) % (9 : Int32))), .unset, .unset, .unset, .unset, .unset, .unset] [])) rfl (hb hby at_142)
                    have pre55 : ∀ t, Steps p.tables e below (T54.setTop (mkF m 163 #[.val (.int p0), .val (.int p1), .val (.int p2), .val (.int p3), .val (.int ((p0 &&& (2147483647 : Int32)) % (9 : Int32))), .val (.ref o7), .val (.int (110 : Int32)), .unset, .unset, .unset, .unset] [])) t → Steps p.tables e below (s₁.setTop (entryFrame m #[(.int p0), (.int p1), (.int p2), (.int p3)] maxLocals)) t := fun t k => by
                      refine pre53 _ ?_
                      show Steps p.tables e below (s₁.setTop (mkF m 139 #[.val (.int p0), .val (.int p1), .val (.int p2), .val (.int p3), .val (.int ((p0 &&& (2147483647 : Int32)) % (9 : Int32))), .unset, .unset, .unset, .unset, .unset, .unset] [(.int (7 : Int32)), (.int ((p0 &&& (2147483647 : Int32)) % (9 : Int32)))])) _
                      refine XS.icmpNo X0.here hx rfl (hb hby at_139) rfl (teq hc139).2 ?_
                      show Steps p.tables e below (s₁.setTop (mkF m 142 #[.val (.int p0), .val (.int p1), .val (.int p2), .val (.int p3), .val (.int ((p0 &&& (2147483647 : Int32)) % (9 : Int32))), .unset, .unset, .unset, .unset, .unset, .unset] [])) _
                      refine st54 _ ?_
                      show Steps p.tables e below (T54.setTop (mkF m 145 #[.val (.int p0), .val (.int p1), .val (.int p2), .val (.int p3), .val (.int ((p0 &&& (2147483647 : Int32)) % (9 : Int32))), .unset, .unset, .unset, .unset, .unset, .unset] [(.ref o7)])) _
                      refine XS.astore X54.here hx rfl (hb hby at_145) rfl rfl (l' := #[.val (.int p0), .val (.int p1), .val (.int p2), .val (.int p3), .val (.int ((p0 &&& (2147483647 : Int32)) % (9 : Int32))), .val (.ref o7), .unset, .unset, .unset, .unset, .unset]) rfl ?_
                      show Steps p.tables e below (T54.setTop (mkF m 147 #[.val (.int p0), .val (.int p1), .val (.int p2), .val (.int p3), .val (.int ((p0 &&& (2147483647 : Int32)) % (9 : Int32))), .val (.ref o7), .unset, .unset, .unset, .unset, .unset] [])) _
                      refine XS.bipush X54.here hx rfl (hb hby at_147) ?_
                      show Steps p.tables e below (T54.setTop (mkF m 149 #[.val (.int p0), .val (.int p1), .val (.int p2), .val (.int p3), .val (.int ((p0 &&& (2147483647 : Int32)) % (9 : Int32))), .val (.ref o7), .unset, .unset, .unset, .unset, .unset] [(.int (110 : Int32))])) _
                      refine XS.istore X54.here hx rfl (hb hby at_149) rfl (l' := #[.val (.int p0), .val (.int p1), .val (.int p2), .val (.int p3), .val (.int ((p0 &&& (2147483647 : Int32)) % (9 : Int32))), .val (.ref o7), .val (.int (110 : Int32)), .unset, .unset, .unset, .unset]) rfl ?_
                      show Steps p.tables e below (T54.setTop (mkF m 151 #[.val (.int p0), .val (.int p1), .val (.int p2), .val (.int p3), .val (.int ((p0 &&& (2147483647 : Int32)) % (9 : Int32))), .val (.ref o7), .val (.int (110 : Int32)), .unset, .unset, .unset, .unset] [])) _
                      refine XS.goto X54.here hx rfl (pc0 := 151) (pc' := 163) rfl (hb hby at_151) (by decide) (by decide) ?_
                      exact k
                    exact ⟨o7, (110 : Int32), T54, X54, e54, pre55, E_o7, F_o7_tag, (by decide)⟩
                  · obtain ⟨T56, X56, e56, st56⟩ := getS2 X0 hx hZ hown (host := "") (Or.inl (hw _ (List.mem_of_getElem? (i := 25) rfl))) Via.refl e0 S_DIGITS (g := (mkF m 154 #[.val (.int p0), .val (.int p1), .val (.int p2), .val (.int p3), .val (.int ((p0 &&& (2147483647 : Int32)) % (9 : Int32))), .unset, .unset, .unset, .unset, .unset, .unset] [])) rfl (hb hby at_154)
                    have pre57 : ∀ t, Steps p.tables e below (T56.setTop (mkF m 163 #[.val (.int p0), .val (.int p1), .val (.int p2), .val (.int p3), .val (.int ((p0 &&& (2147483647 : Int32)) % (9 : Int32))), .val (.ref o8), .val (.int (100 : Int32)), .unset, .unset, .unset, .unset] [])) t → Steps p.tables e below (s₁.setTop (entryFrame m #[(.int p0), (.int p1), (.int p2), (.int p3)] maxLocals)) t := fun t k => by
                      refine pre53 _ ?_
                      show Steps p.tables e below (s₁.setTop (mkF m 139 #[.val (.int p0), .val (.int p1), .val (.int p2), .val (.int p3), .val (.int ((p0 &&& (2147483647 : Int32)) % (9 : Int32))), .unset, .unset, .unset, .unset, .unset, .unset] [(.int (7 : Int32)), (.int ((p0 &&& (2147483647 : Int32)) % (9 : Int32)))])) _
                      refine XS.icmpYes X0.here hx rfl (pc0 := 139) (pc' := 154) rfl (hb hby at_139) rfl (feq hc139).2 (by decide) (by decide) ?_
                      show Steps p.tables e below (s₁.setTop (mkF m 154 #[.val (.int p0), .val (.int p1), .val (.int p2), .val (.int p3), .val (.int ((p0 &&& (2147483647 : Int32)) % (9 : Int32))), .unset, .unset, .unset, .unset, .unset, .unset] [])) _
                      refine st56 _ ?_
                      show Steps p.tables e below (T56.setTop (mkF m 157 #[.val (.int p0), .val (.int p1), .val (.int p2), .val (.int p3), .val (.int ((p0 &&& (2147483647 : Int32)) % (9 : Int32))), .unset, .unset, .unset, .unset, .unset, .unset] [(.ref o8)])) _
                      refine XS.astore X56.here hx rfl (hb hby at_157) rfl rfl (l' := #[.val (.int p0), .val (.int p1), .val (.int p2), .val (.int p3), .val (.int ((p0 &&& (2147483647 : Int32)) % (9 : Int32))), .val (.ref o8), .unset, .unset, .unset, .unset, .unset]) rfl ?_
                      show Steps p.tables e below (T56.setTop (mkF m 159 #[.val (.int p0), .val (.int p1), .val (.int p2), .val (.int p3), .val (.int ((p0 &&& (2147483647 : Int32)) % (9 : Int32))), .val (.ref o8), .unset, .unset, .unset, .unset, .unset] [])) _
                      refine XS.bipush X56.here hx rfl (hb hby at_159) ?_
                      show Steps p.tables e below (T56.setTop (mkF m 161 #[.val (.int p0), .val (.int p1), .val (.int p2), .val (.int p3), .val (.int ((p0 &&& (2147483647 : Int32)) % (9 : Int32))), .val (.ref o8), .unset, .unset, .unset, .unset, .unset] [(.int (100 : Int32))])) _
                      refine XS.istore X56.here hx rfl (hb hby at_161) rfl (l' := #[.val (.int p0), .val (.int p1), .val (.int p2), .val (.int p3), .val (.int ((p0 &&& (2147483647 : Int32)) % (9 : Int32))), .val (.ref o8), .val (.int (100 : Int32)), .unset, .unset, .unset, .unset]) rfl ?_
                      exact k
                    exact ⟨o8, (100 : Int32), T56, X56, e56, pre57, E_o8, F_o8_tag, (by decide)⟩
set_option maxRecDepth 65536 in
set_option maxHeartbeats 40000000 in
theorem comes_1 {Post : Tables → Env → Array Value → State → Outcome → State → Prop} (hpost : ∀ tb e args s v u, (limb_1_1.after args s (.returned v) u = true ∧ limb_1_2.after args s (.returned v) u = true ∧ True) → FrameEnd s (.returned v) u (Jvm.fieldLocs frame_1_writes args s ++ Jvm.arrayLocs frame_1_arrays args s ++ Jvm.staticLocs frame_1_statics s) 16 128 → Post tb e args s (.returned v) u) :
    ArmFor flags0 classFile x code maxLocals ret World_1 tables_1 room_1 Calls_1 rest_1 Pre_1 Post := by
  intro l hfl _ _ p e ha hc hk s m args below hf hA hF happ hP
  obtain ⟨hcalls, hrest, hpre⟩ := hP
  obtain ⟨-, -, -, hnamed, -, -, -, hat⟩ := (Spec.applies_iff hf).mp happ
  obtain ⟨hg, hn⟩ := and_e (Cond.before_iff.mp (show (Jvm.Cond.and given_1 narrow_1).before args s = true from hpre))
  obtain ⟨hcount, hg0⟩ := and_e hg
  obtain ⟨hi0, hg1⟩ := and_e hg0
  obtain ⟨hi1, hg2⟩ := and_e hg1
  obtain ⟨hi2, hg3⟩ := and_e hg2
  have hi3 := hg3
  obtain ⟨w0, w1, w2, w3, rfl⟩ : ∃ w0 w1 w2 w3 : Value, args = #[w0, w1, w2, w3] := by
    have hs : args.size = 4 := by simpa [Cond.value, given_1] using hcount
    obtain ⟨L⟩ := args
    match L, hs with
    | [w0, w1, w2, w3], _ => exact ⟨w0, w1, w2, w3, rfl⟩
  have hw := fun d (hd : d ∈ tables_1) => atoms_spec (ws := Jvm.Cond.code x code maxLocals ret :: tables_1) hat d (List.mem_cons_of_mem _ hd)
  have hfit : Fit s := fun {y c} hc i hi => by
    obtain ⟨ha, rfl⟩ := Array.getElem?_eq_some_iff.mp hc
    have q := List.all_eq_true.mp ((Array.all_eq_true_iff_forall_mem.mp hF) _ (Array.getElem_mem ha)) i (List.mem_range.mpr hi)
    simpa [Array.getElem?_eq_getElem hi] using q
  obtain ⟨i0, ei0⟩ := is_v hi0
  obtain rfl : w0 = (.int i0) := Option.some.inj ei0
  obtain ⟨i1, ei1⟩ := is_v hi1
  obtain rfl : w1 = (.int i1) := Option.some.inj ei1
  obtain ⟨i2, ei2⟩ := is_v hi2
  obtain rfl : w2 = (.int i2) := Option.some.inj ei2
  obtain ⟨i3, ei3⟩ := is_v hi3
  obtain rfl : w3 = (.int i3) := Option.some.inj ei3
  obtain ⟨hn1a, hn1b⟩ := and_e hn
  obtain ⟨o0, ev_o0⟩ := exa_v hn1a
  have E_o0 := Exa.start ev_o0 hn1a
  have S_ACCOUNT : Sta s s.heap "com/example/counterpoise/counterpoise/store/Records$Kind" "ACCOUNT" "Lcom/example/counterpoise/counterpoise/store/Records$Kind;" (.ref o0) := Sta.start ev_o0 (Or.inr ⟨(hw _ (List.mem_of_getElem? (i := 2) rfl)), (hw _ (List.mem_of_getElem? (i := 3) rfl))⟩)
  obtain ⟨hn2a, hn2b⟩ := and_e hn1b
  have F_o0_tag := own_fldS ev_o0 hn2a
  obtain ⟨hn3a, hn3b⟩ := and_e hn2b
  obtain ⟨o3, ev_o3⟩ := exa_v hn3a
  have E_o3 := Exa.start ev_o3 hn3a
  have S_ID : Sta s s.heap "com/example/counterpoise/counterpoise/store/Records$Kind" "ID" "Lcom/example/counterpoise/counterpoise/store/Records$Kind;" (.ref o3) := Sta.start ev_o3 (Or.inr ⟨(hw _ (List.mem_of_getElem? (i := 2) rfl)), (hw _ (List.mem_of_getElem? (i := 18) rfl))⟩)
  obtain ⟨hn4a, hn4b⟩ := and_e hn3b
  have F_o3_tag := own_fldS ev_o3 hn4a
  obtain ⟨hn5a, hn5b⟩ := and_e hn4b
  obtain ⟨o7, ev_o7⟩ := exa_v hn5a
  have E_o7 := Exa.start ev_o7 hn5a
  have S_TENANT : Sta s s.heap "com/example/counterpoise/counterpoise/store/Records$Kind" "TENANT" "Lcom/example/counterpoise/counterpoise/store/Records$Kind;" (.ref o7) := Sta.start ev_o7 (Or.inr ⟨(hw _ (List.mem_of_getElem? (i := 2) rfl)), (hw _ (List.mem_of_getElem? (i := 20) rfl))⟩)
  obtain ⟨hn6a, hn6b⟩ := and_e hn5b
  have F_o7_tag := own_fldS ev_o7 hn6a
  obtain ⟨hn7a, hn7b⟩ := and_e hn6b
  obtain ⟨o1, ev_o1⟩ := exa_v hn7a
  have E_o1 := Exa.start ev_o1 hn7a
  have S_TOTALS : Sta s s.heap "com/example/counterpoise/counterpoise/store/Records$Kind" "TOTALS" "Lcom/example/counterpoise/counterpoise/store/Records$Kind;" (.ref o1) := Sta.start ev_o1 (Or.inr ⟨(hw _ (List.mem_of_getElem? (i := 2) rfl)), (hw _ (List.mem_of_getElem? (i := 22) rfl))⟩)
  obtain ⟨hn8a, hn8b⟩ := and_e hn7b
  have F_o1_tag := own_fldS ev_o1 hn8a
  obtain ⟨hn9a, hn9b⟩ := and_e hn8b
  obtain ⟨o2, ev_o2⟩ := exa_v hn9a
  have E_o2 := Exa.start ev_o2 hn9a
  have S_TRANSACTION : Sta s s.heap "com/example/counterpoise/counterpoise/store/Records$Kind" "TRANSACTION" "Lcom/example/counterpoise/counterpoise/store/Records$Kind;" (.ref o2) := Sta.start ev_o2 (Or.inr ⟨(hw _ (List.mem_of_getElem? (i := 2) rfl)), (hw _ (List.mem_of_getElem? (i := 24) rfl))⟩)
  obtain ⟨hn10a, hn10b⟩ := and_e hn9b
  have F_o2_tag := own_fldS ev_o2 hn10a
  obtain ⟨hn11a, hn11b⟩ := and_e hn10b
  obtain ⟨o8, ev_o8⟩ := exa_v hn11a
  have E_o8 := Exa.start ev_o8 hn11a
  have S_DIGITS : Sta s s.heap "com/example/counterpoise/counterpoise/store/Records$Kind" "DIGITS" "Lcom/example/counterpoise/counterpoise/store/Records$Kind;" (.ref o8) := Sta.start ev_o8 (Or.inr ⟨(hw _ (List.mem_of_getElem? (i := 2) rfl)), (hw _ (List.mem_of_getElem? (i := 26) rfl))⟩)
  obtain ⟨hn12a, hn12b⟩ := and_e hn11b
  have F_o8_tag := own_fldS ev_o8 hn12a
  obtain ⟨hn13a, hn13b⟩ := and_e hn12b
  obtain ⟨o4, ev_o4⟩ := exa_v hn13a
  have E_o4 := Exa.start ev_o4 hn13a
  have S_REVERSAL : Sta s s.heap "com/example/counterpoise/counterpoise/store/Records$Kind" "REVERSAL" "Lcom/example/counterpoise/counterpoise/store/Records$Kind;" (.ref o4) := Sta.start ev_o4 (Or.inr ⟨(hw _ (List.mem_of_getElem? (i := 2) rfl)), (hw _ (List.mem_of_getElem? (i := 28) rfl))⟩)
  obtain ⟨hn14a, hn14b⟩ := and_e hn13b
  have F_o4_tag := own_fldS ev_o4 hn14a
  obtain ⟨hn15a, hn15b⟩ := and_e hn14b
  obtain ⟨o5, ev_o5⟩ := exa_v hn15a
  have E_o5 := Exa.start ev_o5 hn15a
  have S_ENTRY : Sta s s.heap "com/example/counterpoise/counterpoise/store/Records$Kind" "ENTRY" "Lcom/example/counterpoise/counterpoise/store/Records$Kind;" (.ref o5) := Sta.start ev_o5 (Or.inr ⟨(hw _ (List.mem_of_getElem? (i := 2) rfl)), (hw _ (List.mem_of_getElem? (i := 30) rfl))⟩)
  obtain ⟨hn16a, hn16b⟩ := and_e hn15b
  have F_o5_tag := own_fldS ev_o5 hn16a
  obtain ⟨hn17a, hn17b⟩ := and_e hn16b
  obtain ⟨o6, ev_o6⟩ := exa_v hn17a
  have E_o6 := Exa.start ev_o6 hn17a
  have S_UNIT : Sta s s.heap "com/example/counterpoise/counterpoise/store/Records$Kind" "UNIT" "Lcom/example/counterpoise/counterpoise/store/Records$Kind;" (.ref o6) := Sta.start ev_o6 (Or.inr ⟨(hw _ (List.mem_of_getElem? (i := 2) rfl)), (hw _ (List.mem_of_getElem? (i := 32) rfl))⟩)
  have F_o6_tag := own_fldS ev_o6 hn17b
  obtain ⟨n, o, h1, h2, h3, _, L, rfl, ⟨rfl, N⟩, hq⟩ := rm0 l s _ hw tables_1 i0 i1 i2 i3 o0 o1 o2 o3 o4 o5 o6 o7 o8 s.heap s.heap.size (Nat.le_refl _) S_ACCOUNT E_o0 F_o0_tag S_TOTALS E_o1 F_o1_tag S_TRANSACTION E_o2 F_o2_tag S_ID E_o3 F_o3_tag S_REVERSAL E_o4 F_o4_tag S_ENTRY E_o5 F_o5_tag S_UNIT E_o6 F_o6_tag S_TENANT E_o7 F_o7_tag S_DIGITS E_o8 F_o8_tag p e ha hc hk s m _ below hf ((Spec.applies_iff_loose hf).mp happ).1 ⟨rfl, State.Warmed39.refl s, rfl⟩ trivial
  refine ⟨n, _, h1, h2, h3, hpost _ _ _ _ _ _ ⟨Cond.after_iff.mpr rfl, Cond.after_iff.mpr (eq_i res_at (Term.int_eval (1)) rfl), trivial⟩ ⟨hq.1, hq.2.1, (hq.2.2.sift fun y hy => Or.inr (N y hy)).mono (by decide) (by decide)⟩⟩
theorem main_1_1 : Claimed_1_1 := comes_1 fun _ _ _ _ _ _ h hF => ⟨h.1, hF⟩
theorem main_1_2 : Claimed_1_2 := comes_1 fun _ _ _ _ _ _ h hF => ⟨h.2.1, hF⟩
end Jvm.Pilot.@@N@@
namespace Jvm.Pilot.@@N@@
open Jvm Jvm.ClassFile Sem Op Lib Jvm.Free Jvm.Stand Jvm.Pilot.@@N@@.Jvm.D
/-! MADE BY PROGRAM (witnessworld.py) out of the Statement's table words and the real class files: 12 classes; the members and pool entries that the words name. The judged class is class 1, her method 1. -/
namespace start1
open Jvm.ClassFile
def u (s : String) : CpInfo := .utf8 (stringToUtf16 s)
/-- a pool by its gaps: so many unusable entries, then the entry; so many at the end -/
def gap : Nat → List CpInfo → List CpInfo
  | 0, r => r
  | n + 1, r => .unusable :: gap n r
def poolList (es : List (Nat × CpInfo)) (last : Nat) : List CpInfo := es.foldr (fun e r => gap e.1 (e.2 :: r)) (gap last [])
def pool (es : List (Nat × CpInfo)) (last : Nat) : Array CpInfo := ⟨poolList es last⟩
def fileOf (pool : Array CpInfo) (this : Nat) (attrs : Array Attribute := #[]) (ms : Array MethodInfo := #[]) (fl : Nat := 33) (sup : Nat := 0) (ifs : Array Nat := #[]) (fds : Array FieldInfo := #[]) : ClassFile where
  minorVersion := 0
  majorVersion := 65
  constantPool := pool
  accessFlags := fl
  thisClass := this
  superClass := sup
  interfaces := ifs
  fields := fds
  methods := ms
  attributes := attrs
def plain (name : String) (sup : Option ClassId) : Class where
  name := name
  kind := .ordinary
  loader := none
  accessFlags := 33
  super := sup
  interfaces := #[]
  cf := none
  fields := #[]
  methods := #[]
  instanceTypes := #[]
  staticTypes := #[]
  resolved := #[]
  callSites := []
  init := .initialized
  statics := none
  mirror := none

def pool0 : Array CpInfo := pool [(5, u "<init>"), (0, u "()V"), (1, .class_ 10), (1, u "java/lang/Object")] 113

def k0m0 : Method := { name := "<init>", desc := "()V", sig := { parameters := [], returnType := none }, accessFlags := 1, code := none }
/-- java/lang/Object -/
def k0 : Class := { plain "java/lang/Object" none with
  accessFlags := 33
  interfaces := #[]
  cf := some (fileOf pool0 8 #[] #[{ accessFlags := 1, nameIndex := 5, descriptorIndex := 6, attributes := #[] }] 33 0 #[] #[])
  fields := #[]
  methods := #[k0m0]
  instanceTypes := #[]
  staticTypes := #[]
  resolved := Array.replicate 124 none
  statics := none }

def pool1 : Array CpInfo := pool [(2, .class_ 4), (1, u "java/lang/Object"), (0, u "<init>"), (0, u "()V"), (0, .integer 2147483647), (0, .fieldref 9 10), (0, .class_ 11), (0, .nameAndType 12 13), (0, u "com/example/counterpoise/counterpoise/store/Records$Kind"), (0, u "ACCOUNT"), (0, u "Lcom/example/counterpoise/counterpoise/store/Records$Kind;"), (0, .fieldref 9 15), (0, .nameAndType 16 13), (0, u "TOTALS"), (0, .fieldref 9 18), (0, .nameAndType 19 13), (0, u "TRANSACTION"), (0, .fieldref 9 21), (0, .nameAndType 22 13), (0, u "ID"), (0, .fieldref 9 24), (0, .nameAndType 25 13), (0, u "REVERSAL"), (0, .fieldref 9 27), (0, .nameAndType 28 13), (0, u "ENTRY"), (0, .fieldref 9 30), (0, .nameAndType 31 13), (0, u "UNIT"), (0, .fieldref 9 33), (0, .nameAndType 34 13), (0, u "TENANT"), (0, .fieldref 9 36), (0, .nameAndType 37 13), (0, u "DIGITS"), (0, .methodref 9 39), (0, .nameAndType 40 41), (0, u "prefix"), (0, u "()[B"), (0, .methodref 9 43), (0, .nameAndType 44 45), (0, u "holds"), (0, u "([B)Z"), (0, .class_ 47), (0, u "com/example/counterpoise/counterpoise/store/KindHoldsPinLaw"), (2, u "law"), (0, u "(IIII)Z")] 9

def k1m0 : Method := { name := "<init>", desc := "()V", sig := { parameters := [], returnType := none }, accessFlags := 2, code := none }
def k1c1 : Code := { maxStack := 4, maxLocals := 11, code := code, exceptionTable := #[], attributes := #[] }
def k1m1 : Method := { name := "law", desc := "(IIII)Z", sig := { parameters := [.int, .int, .int, .int], returnType := some .boolean }, accessFlags := 9, code := some k1c1 }
/-- com/example/counterpoise/counterpoise/store/KindHoldsPinLaw -/
def k1 : Class := { plain "com/example/counterpoise/counterpoise/store/KindHoldsPinLaw" (some 0) with
  accessFlags := 49
  interfaces := #[]
  cf := some (fileOf pool1 46 #[] #[{ accessFlags := 2, nameIndex := 5, descriptorIndex := 6, attributes := #[] }, { accessFlags := 9, nameIndex := 50, descriptorIndex := 51, attributes := #[] }] 49 2 #[] #[])
  fields := #[]
  methods := #[k1m0, k1m1]
  instanceTypes := #[]
  staticTypes := #[]
  resolved := Array.replicate 61 none
  statics := none }

def pool2 : Array CpInfo := pool [(1, .class_ 2), (0, u "java/lang/constant/Constable"), (0, .class_ 4), (0, u "java/lang/Object")] 6

/-- java/lang/constant/Constable -/
def k2 : Class := { plain "java/lang/constant/Constable" (some 0) with
  accessFlags := 1537
  interfaces := #[]
  cf := some (fileOf pool2 1 #[] #[] 1537 3 #[] #[])
  fields := #[]
  methods := #[]
  instanceTypes := #[]
  staticTypes := #[]
  resolved := Array.replicate 11 none
  statics := none }

def pool3 : Array CpInfo := pool [(1, .class_ 2), (0, u "java/lang/Comparable"), (0, .class_ 4), (0, u "java/lang/Object")] 7

/-- java/lang/Comparable -/
def k3 : Class := { plain "java/lang/Comparable" (some 0) with
  accessFlags := 1537
  interfaces := #[]
  cf := some (fileOf pool3 1 #[] #[] 1537 3 #[] #[])
  fields := #[]
  methods := #[]
  instanceTypes := #[]
  staticTypes := #[]
  resolved := Array.replicate 12 none
  statics := none }

def pool4 : Array CpInfo := pool [(1, .class_ 2), (0, u "java/io/Serializable"), (0, .class_ 4), (0, u "java/lang/Object")] 2

/-- java/io/Serializable -/
def k4 : Class := { plain "java/io/Serializable" (some 0) with
  accessFlags := 1537
  interfaces := #[]
  cf := some (fileOf pool4 1 #[] #[] 1537 3 #[] #[])
  fields := #[]
  methods := #[]
  instanceTypes := #[]
  staticTypes := #[]
  resolved := Array.replicate 7 none
  statics := none }

def pool5 : Array CpInfo := pool [(2, .class_ 4), (1, u "java/lang/Enum"), (0, u "name"), (0, u "Ljava/lang/String;"), (2, u "ordinal"), (0, u "I"), (1, .class_ 14), (1, u "java/lang/Object"), (4, u "hash"), (86, .class_ 108), (1, u "java/lang/Enum$EnumDesc"), (2, .class_ 112), (0, u "java/lang/constant/Constable"), (0, .class_ 114), (0, u "java/lang/Comparable"), (0, .class_ 116), (0, u "java/io/Serializable")] 87

/-- java/lang/Enum -/
def k5 : Class := { plain "java/lang/Enum" (some 0) with
  accessFlags := 1057
  interfaces := #[2, 3, 4]
  cf := some (fileOf pool5 2 #[.nestMembers #[106]] #[] 1057 12 #[111, 113, 115] #[{ accessFlags := 18, nameIndex := 5, descriptorIndex := 6, attributes := #[] }, { accessFlags := 18, nameIndex := 9, descriptorIndex := 10, attributes := #[] }, { accessFlags := 2, nameIndex := 19, descriptorIndex := 10, attributes := #[] }])
  fields := #[{ name := "name", type := (.object "java/lang/String"), accessFlags := 18, slot := 0, constantValue := 0 }, { name := "ordinal", type := .int, accessFlags := 18, slot := 1, constantValue := 0 }, { name := "hash", type := .int, accessFlags := 2, slot := 2, constantValue := 0 }]
  methods := #[]
  instanceTypes := #[(.object "java/lang/String"), .int, .int]
  staticTypes := #[]
  resolved := Array.replicate 204 none
  statics := none }

def pool6 : Array CpInfo := pool [(1, .class_ 2), (0, u "com/example/counterpoise/counterpoise/store/Records$Kind"), (2, u "ACCOUNT"), (0, u "Lcom/example/counterpoise/counterpoise/store/Records$Kind;"), (2, u "TOTALS"), (2, u "TRANSACTION"), (2, u "ID"), (2, u "REVERSAL"), (2, u "ENTRY"), (2, u "UNIT"), (2, u "TENANT"), (2, u "DIGITS"), (2, u "$VALUES"), (0, u "[Lcom/example/counterpoise/counterpoise/store/Records$Kind;"), (6, .class_ 43), (1, u "java/lang/Enum"), (6, .fieldref 1 51), (0, .nameAndType 52 53), (0, u "tag"), (0, u "B"), (23, u "prefix"), (0, u "()[B"), (0, u "holds"), (0, u "([B)Z"), (7, .class_ 89), (0, u "com/example/counterpoise/counterpoise/store/Records")] 2

def k6c0 : Code := { maxStack := 4, maxLocals := 1, code := prog_91_method_4_code, exceptionTable := #[], attributes := #[] }
def k6m0 : Method := { name := "prefix", desc := "()[B", sig := { parameters := [], returnType := some (.array .byte) }, accessFlags := 0, code := some k6c0 }
def k6c1 : Code := { maxStack := 2, maxLocals := 2, code := prog_91_method_5_code, exceptionTable := #[], attributes := #[] }
def k6m1 : Method := { name := "holds", desc := "([B)Z", sig := { parameters := [(.array .byte)], returnType := some .boolean }, accessFlags := 0, code := some k6c1 }
/-- com/example/counterpoise/counterpoise/store/Records$Kind -/
def k6 : Class := { plain "com/example/counterpoise/counterpoise/store/Records$Kind" (some 5) with
  accessFlags := 16432
  interfaces := #[]
  cf := some (fileOf pool6 1 #[.nestHost 88] #[{ accessFlags := 0, nameIndex := 77, descriptorIndex := 78, attributes := #[] }, { accessFlags := 0, nameIndex := 79, descriptorIndex := 80, attributes := #[] }] 16432 41 #[] #[{ accessFlags := 16409, nameIndex := 5, descriptorIndex := 6, attributes := #[] }, { accessFlags := 16409, nameIndex := 9, descriptorIndex := 6, attributes := #[] }, { accessFlags := 16409, nameIndex := 12, descriptorIndex := 6, attributes := #[] }, { accessFlags := 16409, nameIndex := 15, descriptorIndex := 6, attributes := #[] }, { accessFlags := 16409, nameIndex := 18, descriptorIndex := 6, attributes := #[] }, { accessFlags := 16409, nameIndex := 21, descriptorIndex := 6, attributes := #[] }, { accessFlags := 16409, nameIndex := 24, descriptorIndex := 6, attributes := #[] }, { accessFlags := 16409, nameIndex := 27, descriptorIndex := 6, attributes := #[] }, { accessFlags := 16409, nameIndex := 30, descriptorIndex := 6, attributes := #[] }, { accessFlags := 18, nameIndex := 52, descriptorIndex := 53, attributes := #[] }, { accessFlags := 4122, nameIndex := 33, descriptorIndex := 34, attributes := #[] }])
  fields := #[{ name := "ACCOUNT", type := (.object "com/example/counterpoise/counterpoise/store/Records$Kind"), accessFlags := 16409, slot := 0, constantValue := 0 }, { name := "TOTALS", type := (.object "com/example/counterpoise/counterpoise/store/Records$Kind"), accessFlags := 16409, slot := 1, constantValue := 0 }, { name := "TRANSACTION", type := (.object "com/example/counterpoise/counterpoise/store/Records$Kind"), accessFlags := 16409, slot := 2, constantValue := 0 }, { name := "ID", type := (.object "com/example/counterpoise/counterpoise/store/Records$Kind"), accessFlags := 16409, slot := 3, constantValue := 0 }, { name := "REVERSAL", type := (.object "com/example/counterpoise/counterpoise/store/Records$Kind"), accessFlags := 16409, slot := 4, constantValue := 0 }, { name := "ENTRY", type := (.object "com/example/counterpoise/counterpoise/store/Records$Kind"), accessFlags := 16409, slot := 5, constantValue := 0 }, { name := "UNIT", type := (.object "com/example/counterpoise/counterpoise/store/Records$Kind"), accessFlags := 16409, slot := 6, constantValue := 0 }, { name := "TENANT", type := (.object "com/example/counterpoise/counterpoise/store/Records$Kind"), accessFlags := 16409, slot := 7, constantValue := 0 }, { name := "DIGITS", type := (.object "com/example/counterpoise/counterpoise/store/Records$Kind"), accessFlags := 16409, slot := 8, constantValue := 0 }, { name := "tag", type := .byte, accessFlags := 18, slot := 3, constantValue := 0 }, { name := "$VALUES", type := (.array (.object "com/example/counterpoise/counterpoise/store/Records$Kind")), accessFlags := 4122, slot := 9, constantValue := 0 }]
  methods := #[k6m0, k6m1]
  instanceTypes := #[(.object "java/lang/String"), .int, .int, .byte]
  staticTypes := #[(.object "com/example/counterpoise/counterpoise/store/Records$Kind"), (.object "com/example/counterpoise/counterpoise/store/Records$Kind"), (.object "com/example/counterpoise/counterpoise/store/Records$Kind"), (.object "com/example/counterpoise/counterpoise/store/Records$Kind"), (.object "com/example/counterpoise/counterpoise/store/Records$Kind"), (.object "com/example/counterpoise/counterpoise/store/Records$Kind"), (.object "com/example/counterpoise/counterpoise/store/Records$Kind"), (.object "com/example/counterpoise/counterpoise/store/Records$Kind"), (.object "com/example/counterpoise/counterpoise/store/Records$Kind"), (.array (.object "com/example/counterpoise/counterpoise/store/Records$Kind"))]
  resolved := Array.replicate 92 none
  statics := some 0 }

def pool7 : Array CpInfo := pool [(1, u "java/lang/Cloneable"), (0, .class_ 1), (0, u "java/lang/Object"), (0, .class_ 3)] 3

/-- java/lang/Cloneable -/
def k7 : Class := { plain "java/lang/Cloneable" (some 0) with
  accessFlags := 1537
  interfaces := #[]
  cf := some (fileOf pool7 2 #[] #[] 1537 4 #[] #[])
  fields := #[]
  methods := #[]
  instanceTypes := #[]
  staticTypes := #[]
  resolved := Array.replicate 8 none
  statics := none }

/-- the primitive byte -/
def k8 : Class := { plain "byte" none with kind := .primitive 'B', accessFlags := 0x411 }
/-- [B -/
def k9 : Class := { plain "[B" (some 0) with kind := .array 8 .byte, interfaces := #[7, 4], accessFlags := 1041 }

/-- the primitive int -/
def k10 : Class := { plain "int" none with kind := .primitive 'I', accessFlags := 0x411 }
/-- [I -/
def k11 : Class := { plain "[I" (some 0) with kind := .array 10 .int, interfaces := #[7, 4], accessFlags := 1041 }

def heap : Heap := #[{ cls := 6, slots := #[.ref 1, .ref 2, .ref 3, .ref 4, .ref 5, .ref 6, .ref 7, .ref 8, .ref 9, .null], vm := .statics 6 },
  { cls := 6, slots := #[.null, .int 0, .int 0, .int 97], vm := .none },
  { cls := 6, slots := #[.null, .int 1, .int 0, .int 98], vm := .none },
  { cls := 6, slots := #[.null, .int 2, .int 0, .int 116], vm := .none },
  { cls := 6, slots := #[.null, .int 3, .int 0, .int 105], vm := .none },
  { cls := 6, slots := #[.null, .int 4, .int 0, .int 114], vm := .none },
  { cls := 6, slots := #[.null, .int 5, .int 0, .int 101], vm := .none },
  { cls := 6, slots := #[.null, .int 6, .int 0, .int 117], vm := .none },
  { cls := 6, slots := #[.null, .int 7, .int 0, .int 110], vm := .none },
  { cls := 6, slots := #[.null, .int 8, .int 0, .int 100], vm := .none }]
def classes : Array Class := #[k0, k1, k2, k3, k4, k5, k6, k7, k8, k9, k10, k11]
def interned : List (Array UInt16 × Addr) := []
def slotsUsed : Nat := 46
def theMethod : MethodId := ⟨1, 1⟩
def args0 : Array Value := #[.int 5, .int 2, .int 97, .int 7]
def aboutOver (below : List Frame) : State where
  vm := { classes := classes, interned := interned.toArray }
  heap := heap
  slotsUsed := slotsUsed
  threads := #[{ frames := .invoking theMethod args0 :: below }]
def below0 : List Frame := [.native { method := ⟨0, 0⟩, args := #[] }]
def about1 : State := aboutOver below0
def p0 : Program := .bare "" "" ""
def e0 : Env := launch0.env 0 0 0
theorem w_frames : about1.frames = Frame.invoking theMethod args0 :: below0 := rfl
set_option maxRecDepth 65536 in
theorem w_args : argsFit about1.vm theMethod args0 = true := by decide +kernel
set_option maxRecDepth 65536 in
theorem w_heap : heapFits about1 = true := by decide +kernel
set_option maxRecDepth 65536 in
theorem w_runnable : about1.curStatus? = some .runnable := by decide +kernel
set_option maxRecDepth 65536 in
theorem w_alone : about1.alone = true := by decide +kernel
set_option maxRecDepth 65536 in
theorem w_named : about1.methodNamed? x = some theMethod := by decide +kernel
set_option maxRecDepth 65536 in
theorem w_hears : about1.hears theMethod below0 = true := by decide +kernel
set_option maxRecDepth 65536 in
theorem w_ripe : about1.ripe theMethod args0 below0 = true := by decide +kernel
theorem w_running : about1.status = .running := rfl
set_option maxRecDepth 65536 in
theorem w_room : about1.hasRoom e0.platform room_1 = true :=
  launch0.hasRoom_least _ room_1 (by decide +kernel) (by decide +kernel) (by decide +kernel) (by decide +kernel) (by decide +kernel) (by decide +kernel)
theorem allAtoms_all (ts : List Jvm.Cond) (a : Array Jvm.Value) (st : Jvm.State) : (allAtoms ts).before a st = ts.all (fun c => c.before a st) := by
  induction ts with
  | nil => rfl
  | cons c t ih =>
    show (Jvm.Cond.and c (allAtoms t)).before a st = _
    rw [Jvm.Cond.before_and, ih, List.all_cons]
def words1 : List Jvm.Cond := Jvm.Cond.code x code maxLocals ret :: tables_1
/-- a 'code' word, met by the world's own term for the bytes: nothing is compared byte by byte -/
theorem code_word {y : MethodName} {bytes : ByteArray} {mx : Nat} {rt : Option FieldType} {a : Array Value} {s : State} {m : MethodId} {meth : Method} {c : Code} (h1 : s.methodNamed? y = some m) (h2 : s.vm.method? m = some meth) (h3 : meth.code = some c) (h4 : c.code = bytes)
    (h5 : (c.maxLocals == mx && c.exceptionTable.isEmpty && decide (c.maxStack ≤ mostOperands) && decide (meth.sig.returnType = rt) && !meth.locks && decide (parseMethodDescriptor y.desc = some meth.sig)) = true) : (Jvm.Cond.code y bytes mx rt).before a s = true := by
  simp only [Bool.and_eq_true, beq_iff_eq, Bool.not_eq_true', decide_eq_true_eq] at h5
  obtain ⟨⟨⟨⟨⟨g1, g2⟩, g3⟩, g4⟩, g5⟩, g6⟩ := h5
  simp [Cond.before, Cond.holds, Cond.value, h1, h2, h3, h4, g1, g2, g3, g4, g5, g6]
def isCode : Jvm.Cond → Bool
  | .code _ _ _ _ => true
  | _ => false
theorem all_split {L : List Jvm.Cond} {P : Jvm.Cond → Bool} (h1 : L.all (fun c => isCode c || P c) = true) (h2 : ∀ c ∈ L.filter isCode, P c = true) : L.all P = true := by
  refine List.all_eq_true.mpr fun c hc => ?_
  have h := List.all_eq_true.mp h1 c hc
  rcases Bool.eq_false_or_eq_true (isCode c) with hi | hi
  · exact h2 c (List.mem_filter.mpr ⟨hc, hi⟩)
  · simpa [hi] using h
set_option maxRecDepth 65536 in
theorem w_c0 : (Jvm.Cond.code x code maxLocals ret).before args0 about1 = true := code_word (m := ⟨1, 1⟩) (meth := k1m1) (c := k1c1) (by decide +kernel) rfl rfl rfl (by decide +kernel)
set_option maxRecDepth 65536 in
theorem w_c1 : (Jvm.Cond.code ({ cls := "com/example/counterpoise/counterpoise/store/Records$Kind", name := "prefix", desc := "()[B" } : Jvm.MethodName) prog_91_method_4_code (1 : Nat) (Option.some (Jvm.ClassFile.FieldType.array Jvm.ClassFile.FieldType.byte))).before args0 about1 = true := code_word (m := ⟨6, 0⟩) (meth := k6m0) (c := k6c0) (by decide +kernel) rfl rfl rfl (by decide +kernel)
set_option maxRecDepth 65536 in
theorem w_c2 : (Jvm.Cond.code ({ cls := "com/example/counterpoise/counterpoise/store/Records$Kind", name := "holds", desc := "([B)Z" } : Jvm.MethodName) prog_91_method_5_code (2 : Nat) (Option.some Jvm.ClassFile.FieldType.boolean)).before args0 about1 = true := code_word (m := ⟨6, 1⟩) (meth := k6m1) (c := k6c1) (by decide +kernel) rfl rfl rfl (by decide +kernel)
def codes1 : List Jvm.Cond := [Jvm.Cond.code x code maxLocals ret, Jvm.Cond.code ({ cls := "com/example/counterpoise/counterpoise/store/Records$Kind", name := "prefix", desc := "()[B" } : Jvm.MethodName) prog_91_method_4_code (1 : Nat) (Option.some (Jvm.ClassFile.FieldType.array Jvm.ClassFile.FieldType.byte)), Jvm.Cond.code ({ cls := "com/example/counterpoise/counterpoise/store/Records$Kind", name := "holds", desc := "([B)Z" } : Jvm.MethodName) prog_91_method_5_code (2 : Nat) (Option.some Jvm.ClassFile.FieldType.boolean)]
set_option maxRecDepth 65536 in
theorem codes_eq : words1.filter isCode = codes1 := rfl
theorem w_codes : ∀ c ∈ words1.filter isCode, c.before args0 about1 = true := by
  rw [codes_eq]
  intro c hc
  simp only [codes1, List.mem_cons, List.not_mem_nil, or_false] at hc
  rcases hc with rfl | rfl | rfl
  · exact w_c0
  · exact w_c1
  · exact w_c2
set_option maxRecDepth 65536 in
theorem w_t1 : (words1.take 24).all (fun c => isCode c || c.before args0 about1) = true := by decide +kernel
set_option maxRecDepth 65536 in
theorem w_t2 : (words1.drop 24).all (fun c => isCode c || c.before args0 about1) = true := by decide +kernel
theorem w_tables : (allAtoms (Jvm.Cond.code x code maxLocals ret :: tables_1)).before args0 about1 = true := by
  rw [allAtoms_all]
  show words1.all (fun c => c.before args0 about1) = true
  refine all_split ?_ w_codes
  rw [← List.take_append_drop 24 words1, List.all_append, w_t1, w_t2]
  rfl
set_option maxRecDepth 65536 in
theorem w_case : (Jvm.Cond.and given_1 narrow_1).before args0 about1 = true := by decide +kernel
theorem w_applies : (headSpec (Jvm.Cond.code x code maxLocals ret :: tables_1) room_1).applies x e0.platform about1 = true :=
  (Spec.applies_iff w_frames).mpr ⟨w_running, w_runnable, w_alone, w_named, w_hears, w_ripe, w_room, w_tables⟩
theorem atStart : AtStart classFile x code maxLocals ret World_1 tables_1 room_1 Calls_1 rest_1 Pre_1 launch0 p0 e0 about1 theMethod args0 below0 :=
  ⟨lists_1, trivial, launch0.admits_env _ _ _, launch0.least_env, fairChoices_fair.cas, fairChoices_fair.clock, w_frames, w_args, w_heap, w_applies, trivial, trivial, w_case⟩
end start1
theorem witness_1 : WitnessClaimed_1 := ⟨start1.p0, start1.e0, start1.about1, start1.theMethod, start1.args0, start1.below0, start1.atStart⟩
end Jvm.Pilot.@@N@@
