import JvmDerived
import JvmDerived.Pilot.@@N@@Statement
import JvmDerived.Pilot.@@N@@Code
set_option linter.unusedVariables false
set_option linter.unusedSimpArgs false
namespace Jvm.RoadKit
open Sem ClassFile Op Lib Jvm.Stand Jvm.Free Jvm.LawKit
section New
variable {p : Program} {l : Launch} {e : Env} {R : Room} {s : State} {m : MethodId} {args : Array Value} {below : List Frame} {meth : Method} {c : Code} {T : State} {locs : List Loc} {cells slots : Nat}
theorem retI (X : Stand p l e R s m args below meth c T locs cells slots) (hx : p.tables.exec = Jvm.exec) {pc : Nat} {Ls : Array Slot} {z : Int32} {rest : List Value} (hret : meth.sig.returnType = some .int) (hd : decode c.code pc = .ok (.ireturn, 1)) {fs : List Frame}
    (hl : ∀ (f : JFrame) (acts : List Action), f.method = m → f.locked = none → f.entered = [] → (doReturn e (T.setTop f) acts (some (.int z))).1 = T.setFrames fs) : Steps p.tables e below (T.setTop (mkF m pc Ls (.int z :: rest))) (T.setFrames fs) := by
  have hm' : T.vm.method? m = some meth := X.method'
  have hn : narrow .int (.int z) = .int z := rfl
  show Steps p.tables e below (T.setTop { method := m, pc := pc, locals := Ls, stack := _ :: rest, locked := none }) _
  jvm_step X.here [X.here.top, hx, hd, hm', hret, hn]
  first | (intro acts; rw [hl _ acts rfl rfl rfl]) | rw [hl _ _ rfl rfl rfl]
  exact Steps.refl _
end New
end Jvm.RoadKit
namespace Jvm.Pilot.@@N@@
open Jvm Jvm.ClassFile Sem Op Lib Jvm.Free Jvm.Stand Jvm.LawKit Jvm.RoadKit Bundle Jvm.Pilot.@@N@@.Jvm.D
theorem own_fldS {args : Array Value} {s : State} {t : Term} {a : Addr} {O n d : String} {k : Int32} (ev : t.eval args s none [] s = some (.ref a)) (h : (Cond.eq (Term.field t O n d) (Term.int k)).value args s none s [] = some true) : Fld s s.heap a O n d (.int k) := by
  obtain ⟨x, y, e1, e2, k1, k2⟩ := cmp_v (Or.inl h)
  have e3 : y = .int k := Option.some.inj (e2.symm.trans (Term.int_eval k))
  subst e3
  obtain ⟨z, rfl⟩ : ∃ z, x = .int z := by cases x <;> simp [Kin] at k1 k2 ⊢
  have e4 : (Cond.eq (Term.field t O n d) (Term.int k)).value args s none s [] = some (decide (z = k)) := by simp [Cond.value, e1, e2]
  obtain rfl := gotT e4 h
  exact Fld.start (by rw [← fld_at ev]; exact e1)
theorem own_d1_0 : decode prog_17_method_1_code 0 = .ok (.aload_n 0, 1) := by decide +kernel
theorem own_d1_1 : decode prog_17_method_1_code 1 = .ok (.invokespecial 1, 3) := by decide +kernel
theorem own_d1_4 : decode prog_17_method_1_code 4 = .ok (.aload_n 0, 1) := by decide +kernel
theorem own_d1_5 : decode prog_17_method_1_code 5 = .ok (.getstatic 7, 3) := by decide +kernel
theorem own_d1_8 : decode prog_17_method_1_code 8 = .ok (.putfield 13, 3) := by decide +kernel
theorem own_d1_11 : decode prog_17_method_1_code 11 = .ok (.aload_n 0, 1) := by decide +kernel
theorem own_d1_12 : decode prog_17_method_1_code 12 = .ok (.aload_n 1, 1) := by decide +kernel
theorem own_d1_13 : decode prog_17_method_1_code 13 = .ok (.putfield 18, 3) := by decide +kernel
theorem own_d1_16 : decode prog_17_method_1_code 16 = .ok (.aload_n 0, 1) := by decide +kernel
theorem own_d1_17 : decode prog_17_method_1_code 17 = .ok (.aload_n 2, 1) := by decide +kernel
theorem own_d1_18 : decode prog_17_method_1_code 18 = .ok (.putfield 22, 3) := by decide +kernel
theorem own_d1_21 : decode prog_17_method_1_code 21 = .ok (.return_, 1) := by decide +kernel
theorem own_pn0 : plainName "com/example/linkbook/linkbook/frames/Frame" = true := by first | (simp [plainName, overriddenIn]; done) | decide +kernel
theorem own_ef_rm1 (m : MethodId) (a1 : Addr) (a3 : Addr) : entryFrame m #[(.ref a1), .null, (.ref a3)] 3 = mkF m 0 #[.val (.ref a1), .val .null, .val (.ref a3)] [] := by first | (simp [entryFrame, mkF, argsToLocals, Value.category]; done) | rfl
def Q1 (Z : State) (a1 : Addr) (a3 : Addr) (og : Addr) (h0 : Heap) (n0 : Nat) (v : Option Value) (h : Heap) (L : List Loc) : Prop := v = none ∧ Fr n0 L ∧ Keep h0 h [a1] ∧ Exa Z h a1 "com/example/linkbook/linkbook/frames/Frame" ∧ Fld Z h a1 "com/example/linkbook/linkbook/frames/Frame" "data" "[B" (.ref a3)
set_option maxRecDepth 65536 in
set_option maxHeartbeats 40000000 in
theorem rm1 (l : Launch) (Z : State) (a0 : Array Value) (hw : ∀ d ∈ tables_1, d.before a0 Z = true) (ws : List Jvm.Cond) (a1 : Addr) (a3 : Addr) (og : Addr) (h0 : Heap) (n0 : Nat) (Z0 : n0 ≤ h0.size) (E_a1 : Exa Z h0 a1 "com/example/linkbook/linkbook/frames/Frame") (F_a1_quality : Fld Z h0 a1 "com/example/linkbook/linkbook/frames/Frame" "quality" "Lcom/example/linkbook/linkbook/frames/Frame$Quality;" .null) (F_a1_profile : Fld Z h0 a1 "com/example/linkbook/linkbook/frames/Frame" "profile" "Lcom/example/linkbook/linkbook/profile/LinkProfile;" .null) (F_a1_data : Fld Z h0 a1 "com/example/linkbook/linkbook/frames/Frame" "data" "[B" .null) (gg_a1 : n0 ≤ a1) (S_GOOD : Sta Z h0 "com/example/linkbook/linkbook/frames/Frame$Quality" "GOOD" "Lcom/example/linkbook/linkbook/frames/Frame$Quality;" (.ref og)) :
    MetFree l (⟨"com/example/linkbook/linkbook/frames/Frame", "<init>", "(Lcom/example/linkbook/linkbook/profile/LinkProfile;[B)V"⟩ : MethodName) (head1 (Jvm.Cond.code (⟨"com/example/linkbook/linkbook/frames/Frame", "<init>", "(Lcom/example/linkbook/linkbook/profile/LinkProfile;[B)V"⟩ : MethodName) prog_17_method_1_code 3 none :: ws) ({ frames := 1, cells := 0, slots := 0, locals := 12 } : Room)) (fun a U => a = #[(.ref a1), .null, (.ref a3)] ∧ Z.Warmed39 U.vm ∧ U.heap = h0) (fun _ _ _ _ _ => True) (fun _ U o U' => ∃ v L, o = .returned v ∧ Q1 Z a1 a3 og h0 n0 v U'.heap L ∧ FrameEnd U o U' L ({ frames := 1, cells := 0, slots := 0, locals := 12 } : Room).cells ({ frames := 1, cells := 0, slots := 0, locals := 12 } : Room).slots) := by
  refine MetFree.of_bodySF (plainFor_of_name own_pn0) hisR ?_
  intro p e s m args below meth c s₁ Bd hml0 hP hK
  obtain ⟨rfl, hZ, hh⟩ := hP
  have hx := Bd.exec
  have hby := Bd.bytes
  have hml : c.maxLocals = 3 := hml0
  have hown : s.vm.findClass "com/example/linkbook/linkbook/frames/Frame" = some m.cls := findClass_of_methodNamed Bd.named
  have hnm := (name_of_methodNamed Bd.named Bd.method).1
  have X0 : Stand p l e ({ frames := 1, cells := 0, slots := 0, locals := 12 } : Room) s m #[(.ref a1), .null, (.ref a3)] below meth c s₁ [] 0 0 := Stand.of_body Bd
  have e0 : s₁.heap = h0 := by rw [← hh, Bd.state]; rfl
  have N0 := Fr.nil n0
  have K0 : Keep h0 h0 [a1] := Keep.refl h0 _
  have pre0 : ∀ t, Steps p.tables e below (s₁.setTop (mkF m 0 #[.val (.ref a1), .val .null, .val (.ref a3)] [])) t → Steps p.tables e below (s₁.setTop (entryFrame m #[(.ref a1), .null, (.ref a3)] 3)) t := fun t k => castTop (own_ef_rm1 m a1 a3) k
  obtain ⟨T1, X1, e1, st1⟩ := initO X0 hx hZ hown (hw _ (List.mem_of_getElem? (i := 8) rfl)) (hw _ (List.mem_of_getElem? (i := 9) rfl)) (hw _ (List.mem_of_getElem? (i := 10) rfl)) e0 (g := (mkF m 1 #[.val (.ref a1), .val .null, .val (.ref a3)] [(.ref a1)])) rfl (by rw [hml]; rfl) rfl (hb hby own_d1_1) (by decide) (W := 0) (by show 2 * 0 + _ ≤ _; exact Nat.le_of_eq rfl) (by decide)
  obtain ⟨T2, X2, e2, st2⟩ := getS2 X1 hx hZ hown (host := "") (Or.inl (hw _ (List.mem_of_getElem? (i := 11) rfl))) Via.refl e1 S_GOOD (g := (mkF m 5 #[.val (.ref a1), .val .null, .val (.ref a3)] [(.ref a1)])) rfl (hb hby own_d1_5)
  obtain ⟨T3, h3, X3, e3, W3, st3⟩ := putF X2 hx hZ hown (host := "") (Or.inl (hw _ (List.mem_of_getElem? (i := 14) rfl))) Via.refl e2 F_a1_quality E_a1 (Or.inl (hw _ (List.mem_of_getElem? (i := 15) rfl))) (hw _ (List.mem_of_getElem? (i := 3) rfl)) (ty := (.object "com/example/linkbook/linkbook/frames/Frame$Quality")) (by decide) rfl rfl (g := (mkF m 8 #[.val (.ref a1), .val .null, .val (.ref a3)] [(.ref og), (.ref a1)])) rfl rfl (hb hby own_d1_8)
  have Fw3 := F_a1_quality.same W3
  have K3 := K0.wr W3 (Or.inl (List.mem_of_getElem? (i := 0) rfl))
  have N3 := Fr.snoc X3 N0 gg_a1
  have Q4 := (E_a1.wr W3)
  have Q5 := (F_a1_profile.other W3 (Or.inr (slot_ne (Or.inr (hw _ (List.mem_of_getElem? (i := 17) rfl))) (Or.inl (hw _ (List.mem_of_getElem? (i := 15) rfl))) (by decide) (t := (.object "com/example/linkbook/linkbook/profile/LinkProfile")) (t' := (.object "com/example/linkbook/linkbook/frames/Frame$Quality")) (by decide) (by decide))))
  obtain ⟨T6, h6, X6, e6, W6, st6⟩ := putF X3 hx hZ hown (host := "") (Or.inl (hw _ (List.mem_of_getElem? (i := 16) rfl))) Via.refl e3 Q5 Q4 (Or.inr ⟨(hw _ (List.mem_of_getElem? (i := 17) rfl)), rfl, hnm⟩) (hw _ (List.mem_of_getElem? (i := 3) rfl)) (ty := (.object "com/example/linkbook/linkbook/profile/LinkProfile")) (by decide) rfl rfl (g := (mkF m 13 #[.val (.ref a1), .val .null, .val (.ref a3)] [.null, (.ref a1)])) rfl rfl (hb hby own_d1_13)
  have Fw6 := Q5.same W6
  have K6 := K3.wr W6 (Or.inl (List.mem_of_getElem? (i := 0) rfl))
  have N6 := Fr.snoc X6 N3 gg_a1
  have Q7 := (Q4.wr W6)
  have Q8 := ((F_a1_data.other W3 (Or.inr (slot_ne (Or.inr (hw _ (List.mem_of_getElem? (i := 19) rfl))) (Or.inl (hw _ (List.mem_of_getElem? (i := 15) rfl))) (by decide) (t := (.array .byte)) (t' := (.object "com/example/linkbook/linkbook/frames/Frame$Quality")) (by decide) (by decide)))).other W6 (Or.inr (slot_ne (Or.inr (hw _ (List.mem_of_getElem? (i := 19) rfl))) (Or.inr (hw _ (List.mem_of_getElem? (i := 17) rfl))) (by decide) (t := (.array .byte)) (t' := (.object "com/example/linkbook/linkbook/profile/LinkProfile")) (by decide) (by decide))))
  obtain ⟨T9, h9, X9, e9, W9, st9⟩ := putF X6 hx hZ hown (host := "") (Or.inl (hw _ (List.mem_of_getElem? (i := 18) rfl))) Via.refl e6 Q8 Q7 (Or.inr ⟨(hw _ (List.mem_of_getElem? (i := 19) rfl)), rfl, hnm⟩) (hw _ (List.mem_of_getElem? (i := 3) rfl)) (ty := (.array .byte)) (by decide) rfl rfl (g := (mkF m 18 #[.val (.ref a1), .val .null, .val (.ref a3)] [(.ref a3), (.ref a1)])) rfl rfl (hb hby own_d1_18)
  have Fw9 := Q8.same W9
  have K9 := K6.wr W9 (Or.inl (List.mem_of_getElem? (i := 0) rfl))
  have N9 := Fr.snoc X9 N6 gg_a1
  have Q10 := (Q7.wr W9)
  obtain ⟨fs, hr, hrun, hended, hW, hsame⟩ := X9.leave (v := none) (fun _ => rfl)
  refine ⟨_, _, pre0 _ ?_, hrun, hended, _, _, rfl, ?_, ⟨_, rfl⟩, hW, hsame.mono (by decide) (by decide)⟩
  · show Steps p.tables e below (s₁.setTop (mkF m 0 #[.val (.ref a1), .val .null, .val (.ref a3)] [])) _
    refine XS.aloadN X0.here hx rfl (hb hby own_d1_0) rfl rfl ?_
    show Steps p.tables e below (s₁.setTop (mkF m 1 #[.val (.ref a1), .val .null, .val (.ref a3)] [(.ref a1)])) _
    refine st1 _ ?_
    show Steps p.tables e below (T1.setTop (mkF m 4 #[.val (.ref a1), .val .null, .val (.ref a3)] [])) _
    refine XS.aloadN X1.here hx rfl (hb hby own_d1_4) rfl rfl ?_
    show Steps p.tables e below (T1.setTop (mkF m 5 #[.val (.ref a1), .val .null, .val (.ref a3)] [(.ref a1)])) _
    refine st2 _ ?_
    show Steps p.tables e below (T2.setTop (mkF m 8 #[.val (.ref a1), .val .null, .val (.ref a3)] [(.ref og), (.ref a1)])) _
    refine st3 _ ?_
    show Steps p.tables e below (T3.setTop (mkF m 11 #[.val (.ref a1), .val .null, .val (.ref a3)] [])) _
    refine XS.aloadN X3.here hx rfl (hb hby own_d1_11) rfl rfl ?_
    show Steps p.tables e below (T3.setTop (mkF m 12 #[.val (.ref a1), .val .null, .val (.ref a3)] [(.ref a1)])) _
    refine XS.aloadN X3.here hx rfl (hb hby own_d1_12) rfl rfl ?_
    show Steps p.tables e below (T3.setTop (mkF m 13 #[.val (.ref a1), .val .null, .val (.ref a3)] [.null, (.ref a1)])) _
    refine st6 _ ?_
    show Steps p.tables e below (T6.setTop (mkF m 16 #[.val (.ref a1), .val .null, .val (.ref a3)] [])) _
    refine XS.aloadN X6.here hx rfl (hb hby own_d1_16) rfl rfl ?_
    show Steps p.tables e below (T6.setTop (mkF m 17 #[.val (.ref a1), .val .null, .val (.ref a3)] [(.ref a1)])) _
    refine XS.aloadN X6.here hx rfl (hb hby own_d1_17) rfl rfl ?_
    show Steps p.tables e below (T6.setTop (mkF m 18 #[.val (.ref a1), .val .null, .val (.ref a3)] [(.ref a3), (.ref a1)])) _
    refine st9 _ ?_
    show Steps p.tables e below (T9.setTop (mkF m 21 #[.val (.ref a1), .val .null, .val (.ref a3)] [])) _
    exact X9.returnOut hx Bd.returns (hb hby own_d1_21) hr
  · show Q1 Z a1 a3 og h0 n0 _ T9.heap _
    rw [e9]
    exact ⟨rfl, N9, K9, Q10, Fw9⟩
theorem own_d3_0 : decode prog_17_method_13_code 0 = .ok (.aload_n 0, 1) := by decide +kernel
theorem own_d3_1 : decode prog_17_method_13_code 1 = .ok (.getfield 22, 3) := by decide +kernel
theorem own_d3_4 : decode prog_17_method_13_code 4 = .ok (.iconst 2, 1) := by decide +kernel
theorem own_d3_5 : decode prog_17_method_13_code 5 = .ok (.baload, 1) := by decide +kernel
theorem own_d3_6 : decode prog_17_method_13_code 6 = .ok (.sipush 255, 3) := by decide +kernel
theorem own_d3_9 : decode prog_17_method_13_code 9 = .ok (.iand, 1) := by decide +kernel
theorem own_d3_10 : decode prog_17_method_13_code 10 = .ok (.bipush 16, 2) := by decide +kernel
theorem own_d3_12 : decode prog_17_method_13_code 12 = .ok (.ishl, 1) := by decide +kernel
theorem own_d3_13 : decode prog_17_method_13_code 13 = .ok (.aload_n 0, 1) := by decide +kernel
theorem own_d3_14 : decode prog_17_method_13_code 14 = .ok (.getfield 22, 3) := by decide +kernel
theorem own_d3_17 : decode prog_17_method_13_code 17 = .ok (.iconst 3, 1) := by decide +kernel
theorem own_d3_18 : decode prog_17_method_13_code 18 = .ok (.baload, 1) := by decide +kernel
theorem own_d3_19 : decode prog_17_method_13_code 19 = .ok (.sipush 255, 3) := by decide +kernel
theorem own_d3_22 : decode prog_17_method_13_code 22 = .ok (.iand, 1) := by decide +kernel
theorem own_d3_23 : decode prog_17_method_13_code 23 = .ok (.bipush 8, 2) := by decide +kernel
theorem own_d3_25 : decode prog_17_method_13_code 25 = .ok (.ishl, 1) := by decide +kernel
theorem own_d3_26 : decode prog_17_method_13_code 26 = .ok (.ior, 1) := by decide +kernel
theorem own_d3_27 : decode prog_17_method_13_code 27 = .ok (.aload_n 0, 1) := by decide +kernel
theorem own_d3_28 : decode prog_17_method_13_code 28 = .ok (.getfield 22, 3) := by decide +kernel
theorem own_d3_31 : decode prog_17_method_13_code 31 = .ok (.iconst 4, 1) := by decide +kernel
theorem own_d3_32 : decode prog_17_method_13_code 32 = .ok (.baload, 1) := by decide +kernel
theorem own_d3_33 : decode prog_17_method_13_code 33 = .ok (.sipush 255, 3) := by decide +kernel
theorem own_d3_36 : decode prog_17_method_13_code 36 = .ok (.iand, 1) := by decide +kernel
theorem own_d3_37 : decode prog_17_method_13_code 37 = .ok (.ior, 1) := by decide +kernel
theorem own_d3_38 : decode prog_17_method_13_code 38 = .ok (.ireturn, 1) := by decide +kernel
def own_f_rm3 (v0 : Int32) (v1 : Int32) (v2 : Int32) (v3 : Int32) (v4 : Int32) (v5 : Int32) : Int32 := ((((v2 &&& (255 : Int32)) <<< ((16 : Int32) &&& 31)) ||| ((v3 &&& (255 : Int32)) <<< ((8 : Int32) &&& 31))) ||| (v4 &&& (255 : Int32)))
theorem own_ef_rm3 (m : MethodId) (a1 : Addr) : entryFrame m #[(.ref a1)] 1 = mkF m 0 #[.val (.ref a1)] [] := by first | (simp [entryFrame, mkF, argsToLocals, Value.category]; done) | rfl
def Q3 (Z : State) (a1 : Addr) (w : Addr) (k : ClassId) (v0 : Int32) (v1 : Int32) (v2 : Int32) (v3 : Int32) (v4 : Int32) (v5 : Int32) (h0 : Heap) (n0 : Nat) (v : Option Value) (h : Heap) (L : List Loc) : Prop := v = some (.int (own_f_rm3 v0 v1 v2 v3 v4 v5)) ∧ Fr n0 L ∧ h = h0
set_option maxRecDepth 65536 in
set_option maxHeartbeats 40000000 in
theorem rm3 (l : Launch) (Z : State) (a0 : Array Value) (hw : ∀ d ∈ tables_1, d.before a0 Z = true) (ws : List Jvm.Cond) (a1 : Addr) (w : Addr) (k : ClassId) (v0 : Int32) (v1 : Int32) (v2 : Int32) (v3 : Int32) (v4 : Int32) (v5 : Int32) (h0 : Heap) (n0 : Nat) (Z0 : n0 ≤ h0.size) (F_a1_data : Fld Z h0 a1 "com/example/linkbook/linkbook/frames/Frame" "data" "[B" (.ref w)) (V_w : Arv Z h0 w k .byte (6 : Int32) [(.int v0), (.int v1), (.int v2), (.int v3), (.int v4), (.int v5)] (.int (0 : Int32))) :
    MetFree l (⟨"com/example/linkbook/linkbook/frames/Frame", "counter", "()I"⟩ : MethodName) (head1 (Jvm.Cond.code (⟨"com/example/linkbook/linkbook/frames/Frame", "counter", "()I"⟩ : MethodName) prog_17_method_13_code 1 (some .int) :: ws) ({ frames := 0, cells := 0, slots := 0, locals := 0 } : Room)) (fun a U => a = #[(.ref a1)] ∧ Z.Warmed39 U.vm ∧ U.heap = h0) (fun _ _ _ _ _ => True) (fun _ U o U' => ∃ v L, o = .returned v ∧ Q3 Z a1 w k v0 v1 v2 v3 v4 v5 h0 n0 v U'.heap L ∧ FrameEnd U o U' L ({ frames := 0, cells := 0, slots := 0, locals := 0 } : Room).cells ({ frames := 0, cells := 0, slots := 0, locals := 0 } : Room).slots) := by
  refine MetFree.of_bodySF (plainFor_of_name own_pn0) hisR ?_
  intro p e s m args below meth c s₁ Bd hml0 hP hK
  obtain ⟨rfl, hZ, hh⟩ := hP
  have hx := Bd.exec
  have hby := Bd.bytes
  have hml : c.maxLocals = 1 := hml0
  have hown : s.vm.findClass "com/example/linkbook/linkbook/frames/Frame" = some m.cls := findClass_of_methodNamed Bd.named
  have hnm := (name_of_methodNamed Bd.named Bd.method).1
  have X0 : Stand p l e ({ frames := 0, cells := 0, slots := 0, locals := 0 } : Room) s m #[(.ref a1)] below meth c s₁ [] 0 0 := Stand.of_body Bd
  have e0 : s₁.heap = h0 := by rw [← hh, Bd.state]; rfl
  have N0 := Fr.nil n0
  have K0 : Keep h0 h0 [] := Keep.refl h0 _
  have pre0 : ∀ t, Steps p.tables e below (s₁.setTop (mkF m 0 #[.val (.ref a1)] [])) t → Steps p.tables e below (s₁.setTop (entryFrame m #[(.ref a1)] 1)) t := fun t k => castTop (own_ef_rm3 m a1) k
  obtain ⟨T17, X17, e17, st17⟩ := getF X0 hx hZ hown (host := "") (Or.inl (hw _ (List.mem_of_getElem? (i := 18) rfl))) Via.refl e0 F_a1_data (g := (mkF m 1 #[.val (.ref a1)] [(.ref a1)])) rfl rfl (hb hby own_d3_1)
  obtain ⟨cl18, Ar18, q18, S18, M18, H18, G18⟩ := id V_w
  have hin18 : ¬ ((2 : Int32) < 0 ∨ cl18.slots.size ≤ ((2 : Int32)).toNatClampNeg) := inb_of S18 ⟨by decide, by decide⟩
  have hat18 : cl18.slots[((2 : Int32)).toNatClampNeg]? = some (.int v2) := Has.at H18 hin18 rfl
  obtain ⟨T19, X19, e19, st19⟩ := getF X17 hx hZ hown (host := "") (Or.inl (hw _ (List.mem_of_getElem? (i := 18) rfl))) Via.refl e17 F_a1_data (g := (mkF m 14 #[.val (.ref a1)] [(.ref a1), (.int ((v2 &&& (255 : Int32)) <<< ((16 : Int32) &&& 31)))])) rfl rfl (hb hby own_d3_14)
  obtain ⟨cl20, Ar20, q20, S20, M20, H20, G20⟩ := id V_w
  have hin20 : ¬ ((3 : Int32) < 0 ∨ cl20.slots.size ≤ ((3 : Int32)).toNatClampNeg) := inb_of S20 ⟨by decide, by decide⟩
  have hat20 : cl20.slots[((3 : Int32)).toNatClampNeg]? = some (.int v3) := Has.at H20 hin20 rfl
  obtain ⟨T21, X21, e21, st21⟩ := getF X19 hx hZ hown (host := "") (Or.inl (hw _ (List.mem_of_getElem? (i := 18) rfl))) Via.refl e19 F_a1_data (g := (mkF m 28 #[.val (.ref a1)] [(.ref a1), (.int (((v2 &&& (255 : Int32)) <<< ((16 : Int32) &&& 31)) ||| ((v3 &&& (255 : Int32)) <<< ((8 : Int32) &&& 31))))])) rfl rfl (hb hby own_d3_28)
  obtain ⟨cl22, Ar22, q22, S22, M22, H22, G22⟩ := id V_w
  have hin22 : ¬ ((4 : Int32) < 0 ∨ cl22.slots.size ≤ ((4 : Int32)).toNatClampNeg) := inb_of S22 ⟨by decide, by decide⟩
  have hat22 : cl22.slots[((4 : Int32)).toNatClampNeg]? = some (.int v4) := Has.at H22 hin22 rfl
  obtain ⟨fs, hr, hrun, hended, hW, hsame⟩ := X21.leave (v := some (.int ((((v2 &&& (255 : Int32)) <<< ((16 : Int32) &&& 31)) ||| ((v3 &&& (255 : Int32)) <<< ((8 : Int32) &&& 31))) ||| (v4 &&& (255 : Int32))))) (fun h => by rw [Bd.returns] at h; cases h)
  refine ⟨_, _, pre0 _ ?_, hrun, hended, _, _, rfl, ?_, ⟨_, rfl⟩, hW, hsame.mono (by decide) (by decide)⟩
  · show Steps p.tables e below (s₁.setTop (mkF m 0 #[.val (.ref a1)] [])) _
    refine XS.aloadN X0.here hx rfl (hb hby own_d3_0) rfl rfl ?_
    show Steps p.tables e below (s₁.setTop (mkF m 1 #[.val (.ref a1)] [(.ref a1)])) _
    refine st17 _ ?_
    show Steps p.tables e below (T17.setTop (mkF m 4 #[.val (.ref a1)] [(.ref w)])) _
    refine XS.iconst X17.here hx rfl (hb hby own_d3_4) ?_
    show Steps p.tables e below (T17.setTop (mkF m 5 #[.val (.ref a1)] [(.int (2 : Int32)), (.ref w)])) _
    refine X17.baloadBytes hx (j := (2 : Int32)) (v := (.int v2)) (by rw [e17]; exact Ar18.1) (State.isArrayOf_alike hZ.alike Ar18.2.1) Ar18.2.2 hin18 hat18 (g := (mkF m 5 #[.val (.ref a1)] [(.int (2 : Int32)), (.ref w)])) rfl rfl (hb hby own_d3_5) _ ?_
    show Steps p.tables e below (T17.setTop (mkF m 6 #[.val (.ref a1)] [(.int v2)])) _
    refine XS.sipush X17.here hx rfl (hb hby own_d3_6) ?_
    show Steps p.tables e below (T17.setTop (mkF m 9 #[.val (.ref a1)] [(.int (255 : Int32)), (.int v2)])) _
    refine XS.iand X17.here hx rfl (hb hby own_d3_9) rfl ?_
    show Steps p.tables e below (T17.setTop (mkF m 10 #[.val (.ref a1)] [(.int (v2 &&& (255 : Int32)))])) _
    refine XS.bipush X17.here hx rfl (hb hby own_d3_10) ?_
    show Steps p.tables e below (T17.setTop (mkF m 12 #[.val (.ref a1)] [(.int (16 : Int32)), (.int (v2 &&& (255 : Int32)))])) _
    refine XS.ishl X17.here hx rfl (hb hby own_d3_12) rfl ?_
    show Steps p.tables e below (T17.setTop (mkF m 13 #[.val (.ref a1)] [(.int ((v2 &&& (255 : Int32)) <<< ((16 : Int32) &&& 31)))])) _
    refine XS.aloadN X17.here hx rfl (hb hby own_d3_13) rfl rfl ?_
    show Steps p.tables e below (T17.setTop (mkF m 14 #[.val (.ref a1)] [(.ref a1), (.int ((v2 &&& (255 : Int32)) <<< ((16 : Int32) &&& 31)))])) _
    refine st19 _ ?_
    show Steps p.tables e below (T19.setTop (mkF m 17 #[.val (.ref a1)] [(.ref w), (.int ((v2 &&& (255 : Int32)) <<< ((16 : Int32) &&& 31)))])) _
    refine XS.iconst X19.here hx rfl (hb hby own_d3_17) ?_
    show Steps p.tables e below (T19.setTop (mkF m 18 #[.val (.ref a1)] [(.int (3 : Int32)), (.ref w), (.int ((v2 &&& (255 : Int32)) <<< ((16 : Int32) &&& 31)))])) _
    refine X19.baloadBytes hx (j := (3 : Int32)) (v := (.int v3)) (by rw [e19]; exact Ar20.1) (State.isArrayOf_alike hZ.alike Ar20.2.1) Ar20.2.2 hin20 hat20 (g := (mkF m 18 #[.val (.ref a1)] [(.int (3 : Int32)), (.ref w), (.int ((v2 &&& (255 : Int32)) <<< ((16 : Int32) &&& 31)))])) rfl rfl (hb hby own_d3_18) _ ?_
    show Steps p.tables e below (T19.setTop (mkF m 19 #[.val (.ref a1)] [(.int v3), (.int ((v2 &&& (255 : Int32)) <<< ((16 : Int32) &&& 31)))])) _
    refine XS.sipush X19.here hx rfl (hb hby own_d3_19) ?_
    show Steps p.tables e below (T19.setTop (mkF m 22 #[.val (.ref a1)] [(.int (255 : Int32)), (.int v3), (.int ((v2 &&& (255 : Int32)) <<< ((16 : Int32) &&& 31)))])) _
    refine XS.iand X19.here hx rfl (hb hby own_d3_22) rfl ?_
    show Steps p.tables e below (T19.setTop (mkF m 23 #[.val (.ref a1)] [(.int (v3 &&& (255 : Int32))), (.int ((v2 &&& (255 : Int32)) <<< ((16 : Int32) &&& 31)))])) _
    refine XS.bipush X19.here hx rfl (hb hby own_d3_23) ?_
    show Steps p.tables e below (T19.setTop (mkF m 25 #[.val (.ref a1)] [(.int (8 : Int32)), (.int (v3 &&& (255 : Int32))), (.int ((v2 &&& (255 : Int32)) <<< ((16 : Int32) &&& 31)))])) _
    refine XS.ishl X19.here hx rfl (hb hby own_d3_25) rfl ?_
    show Steps p.tables e below (T19.setTop (mkF m 26 #[.val (.ref a1)] [(.int ((v3 &&& (255 : Int32)) <<< ((8 : Int32) &&& 31))), (.int ((v2 &&& (255 : Int32)) <<< ((16 : Int32) &&& 31)))])) _
    refine XS.ior X19.here hx rfl (hb hby own_d3_26) rfl ?_
    show Steps p.tables e below (T19.setTop (mkF m 27 #[.val (.ref a1)] [(.int (((v2 &&& (255 : Int32)) <<< ((16 : Int32) &&& 31)) ||| ((v3 &&& (255 : Int32)) <<< ((8 : Int32) &&& 31))))])) _
    refine XS.aloadN X19.here hx rfl (hb hby own_d3_27) rfl rfl ?_
    show Steps p.tables e below (T19.setTop (mkF m 28 #[.val (.ref a1)] [(.ref a1), (.int (((v2 &&& (255 : Int32)) <<< ((16 : Int32) &&& 31)) ||| ((v3 &&& (255 : Int32)) <<< ((8 : Int32) &&& 31))))])) _
    refine st21 _ ?_
    show Steps p.tables e below (T21.setTop (mkF m 31 #[.val (.ref a1)] [(.ref w), (.int (((v2 &&& (255 : Int32)) <<< ((16 : Int32) &&& 31)) ||| ((v3 &&& (255 : Int32)) <<< ((8 : Int32) &&& 31))))])) _
    refine XS.iconst X21.here hx rfl (hb hby own_d3_31) ?_
    show Steps p.tables e below (T21.setTop (mkF m 32 #[.val (.ref a1)] [(.int (4 : Int32)), (.ref w), (.int (((v2 &&& (255 : Int32)) <<< ((16 : Int32) &&& 31)) ||| ((v3 &&& (255 : Int32)) <<< ((8 : Int32) &&& 31))))])) _
    refine X21.baloadBytes hx (j := (4 : Int32)) (v := (.int v4)) (by rw [e21]; exact Ar22.1) (State.isArrayOf_alike hZ.alike Ar22.2.1) Ar22.2.2 hin22 hat22 (g := (mkF m 32 #[.val (.ref a1)] [(.int (4 : Int32)), (.ref w), (.int (((v2 &&& (255 : Int32)) <<< ((16 : Int32) &&& 31)) ||| ((v3 &&& (255 : Int32)) <<< ((8 : Int32) &&& 31))))])) rfl rfl (hb hby own_d3_32) _ ?_
    show Steps p.tables e below (T21.setTop (mkF m 33 #[.val (.ref a1)] [(.int v4), (.int (((v2 &&& (255 : Int32)) <<< ((16 : Int32) &&& 31)) ||| ((v3 &&& (255 : Int32)) <<< ((8 : Int32) &&& 31))))])) _
    refine XS.sipush X21.here hx rfl (hb hby own_d3_33) ?_
    show Steps p.tables e below (T21.setTop (mkF m 36 #[.val (.ref a1)] [(.int (255 : Int32)), (.int v4), (.int (((v2 &&& (255 : Int32)) <<< ((16 : Int32) &&& 31)) ||| ((v3 &&& (255 : Int32)) <<< ((8 : Int32) &&& 31))))])) _
    refine XS.iand X21.here hx rfl (hb hby own_d3_36) rfl ?_
    show Steps p.tables e below (T21.setTop (mkF m 37 #[.val (.ref a1)] [(.int (v4 &&& (255 : Int32))), (.int (((v2 &&& (255 : Int32)) <<< ((16 : Int32) &&& 31)) ||| ((v3 &&& (255 : Int32)) <<< ((8 : Int32) &&& 31))))])) _
    refine XS.ior X21.here hx rfl (hb hby own_d3_37) rfl ?_
    show Steps p.tables e below (T21.setTop (mkF m 38 #[.val (.ref a1)] [(.int ((((v2 &&& (255 : Int32)) <<< ((16 : Int32) &&& 31)) ||| ((v3 &&& (255 : Int32)) <<< ((8 : Int32) &&& 31))) ||| (v4 &&& (255 : Int32))))])) _
    exact retI X21 hx Bd.returns (hb hby own_d3_38) hr
  · show Q3 Z a1 w k v0 v1 v2 v3 v4 v5 h0 n0 _ T21.heap _
    rw [e21]
    exact ⟨(congrArg (fun z => some (Value.int z)) (by unfold own_f_rm3; rfl : ((((v2 &&& (255 : Int32)) <<< ((16 : Int32) &&& 31)) ||| ((v3 &&& (255 : Int32)) <<< ((8 : Int32) &&& 31))) ||| (v4 &&& (255 : Int32))) = (own_f_rm3 v0 v1 v2 v3 v4 v5))), N0, rfl⟩
theorem own_b (x : Int32) : ((nar .byte (x.toInt8.toInt32)) &&& (255 : Int32)).toInt = x.toInt % 256 := by
  have h1 := c_i2b x
  have h2 := c_i2b (x.toInt8.toInt32)
  have h3 := c_mask (x.toInt8.toInt32.toInt8.toInt32) 255 8 (by decide) (by decide)
  show ((x.toInt8.toInt32.toInt8.toInt32) &&& (255 : Int32)).toInt = _
  omega
theorem own_eq (v : Int32) (y0 y1 y5 : Int32) : own_f_rm3 y0 y1 (nar .byte (((v &&& (16777215 : Int32)).toUInt32 >>> ((16 : Int32) &&& 31).toUInt32).toInt32.toInt8.toInt32)) (nar .byte (((v &&& (16777215 : Int32)).toUInt32 >>> ((8 : Int32) &&& 31).toUInt32).toInt32.toInt8.toInt32)) (nar .byte ((v &&& (16777215 : Int32)).toInt8.toInt32)) y5 = (v &&& (16777215 : Int32)) := by
  have hc := c_mask v 16777215 24 (by decide) (by decide)
  generalize (v &&& (16777215 : Int32)) = c at *
  have hr : 0 ≤ c.toInt ∧ c.toInt < 16777216 := by omega
  have b2 := own_b ((c.toUInt32 >>> ((16 : Int32) &&& 31).toUInt32).toInt32)
  have b3 := own_b ((c.toUInt32 >>> ((8 : Int32) &&& 31).toUInt32).toInt32)
  have b4 := own_b c
  have s2 := c_iushr c 16 16 (by decide) (by decide)
  have s3 := c_iushr c 8 8 (by decide) (by decide)
  unfold own_f_rm3
  generalize ((nar .byte (((c.toUInt32 >>> ((16 : Int32) &&& 31).toUInt32).toInt32).toInt8.toInt32)) &&& (255 : Int32)) = x2 at *
  generalize ((nar .byte (((c.toUInt32 >>> ((8 : Int32) &&& 31).toUInt32).toInt32).toInt8.toInt32)) &&& (255 : Int32)) = x3 at *
  generalize ((nar .byte (c.toInt8.toInt32)) &&& (255 : Int32)) = x4 at *
  have l2 := c_ishl x2 16 16 (by decide)
  have l3 := c_ishl x3 8 8 (by decide)
  generalize (x2 <<< ((16 : Int32) &&& 31)) = z2 at *
  generalize (x3 <<< ((8 : Int32) &&& 31)) = z3 at *
  have r2 := rng32 z2
  have r3 := rng32 z3
  have e2 : z2.toInt = x2.toInt * 65536 := by omega
  have e3 : z3.toInt = x3.toInt * 256 := by omega
  have o1 := c_or z2 z3 16 (by decide) 65536 (by decide) (by omega) (by omega) (by omega)
  have ro := rng32 (z2 ||| z3)
  have e4 : (z2 ||| z3).toInt = z2.toInt + z3.toInt := by omega
  have o2 := c_or (z2 ||| z3) x4 8 (by decide) 256 (by decide) (by omega) (by omega) (by omega)
  have rp := rng32 ((z2 ||| z3) ||| x4)
  rw [← Int32.toInt_inj]
  omega
theorem own_pd0 : parseMethodDescriptor "(Lcom/example/linkbook/linkbook/profile/LinkProfile;[B)V" = some ⟨[(.object "com/example/linkbook/linkbook/profile/LinkProfile"), (.array .byte)], none⟩ := by decide +kernel
theorem own_pd1 : parseMethodDescriptor "()I" = some ⟨[], some .int⟩ := by decide +kernel
theorem own_pn1 : plainName "com/example/linkbook/linkbook/frames/FrameCounterPinLaw" = true := by first | (simp [plainName, overriddenIn]; done) | decide +kernel
theorem own_ef_rm0 (m : MethodId) (p0 : Int32) (p1 : Int32) (p2 : Int32) (p3 : Int32) : entryFrame m #[(.int p0), (.int p1), (.int p2), (.int p3)] maxLocals = mkF m 0 #[.val (.int p0), .val (.int p1), .val (.int p2), .val (.int p3), .unset, .unset, .unset] [] := by first | (simp [entryFrame, mkF, argsToLocals, Value.category, maxLocals]; done) | rfl
def Q0 (Z : State) (p0 : Int32) (p1 : Int32) (p2 : Int32) (p3 : Int32) (og : Addr) (h0 : Heap) (n0 : Nat) (v : Option Value) (h : Heap) (L : List Loc) : Prop := v = some (.int (1 : Int32)) ∧ Fr n0 L
set_option maxRecDepth 65536 in
set_option maxHeartbeats 40000000 in
theorem rm0 (l : Launch) (Z : State) (a0 : Array Value) (hw : ∀ d ∈ tables_1, d.before a0 Z = true) (ws : List Jvm.Cond) (p0 : Int32) (p1 : Int32) (p2 : Int32) (p3 : Int32) (og : Addr) (h0 : Heap) (n0 : Nat) (Z0 : n0 ≤ h0.size) (S_GOOD : Sta Z h0 "com/example/linkbook/linkbook/frames/Frame$Quality" "GOOD" "Lcom/example/linkbook/linkbook/frames/Frame$Quality;" (.ref og)) :
    MetFree l x (head1 (Jvm.Cond.code x code maxLocals ret :: ws) room_1) (fun a U => a = #[(.int p0), (.int p1), (.int p2), (.int p3)] ∧ Z.Warmed39 U.vm ∧ U.heap = h0) (fun _ _ _ _ _ => True) (fun _ U o U' => ∃ v L, o = .returned v ∧ Q0 Z p0 p1 p2 p3 og h0 n0 v U'.heap L ∧ FrameEnd U o U' L room_1.cells room_1.slots) := by
  refine MetFree.of_bodySF (plainFor_of_name own_pn1) hisR ?_
  intro p e s m args below meth c s₁ Bd hml0 hP hK
  obtain ⟨rfl, hZ, hh⟩ := hP
  have hx := Bd.exec
  have hby := Bd.bytes
  have hml : c.maxLocals = 7 := hml0
  have hown : s.vm.findClass "com/example/linkbook/linkbook/frames/FrameCounterPinLaw" = some m.cls := findClass_of_methodNamed Bd.named
  have hnm := (name_of_methodNamed Bd.named Bd.method).1
  have X0 : Stand p l e room_1 s m #[(.int p0), (.int p1), (.int p2), (.int p3)] below meth c s₁ [] 0 0 := Stand.of_body Bd
  have e0 : s₁.heap = h0 := by rw [← hh, Bd.state]; rfl
  have N0 := Fr.nil n0
  have K0 : Keep h0 h0 [] := Keep.refl h0 _
  have pre0 : ∀ t, Steps p.tables e below (s₁.setTop (mkF m 0 #[.val (.int p0), .val (.int p1), .val (.int p2), .val (.int p3), .unset, .unset, .unset] [])) t → Steps p.tables e below (s₁.setTop (entryFrame m #[(.int p0), (.int p1), (.int p2), (.int p3)] maxLocals)) t := fun t k => castTop (own_ef_rm0 m p0 p1 p2 p3) k
  obtain ⟨T23, h23, k23, X23, e23, E23, A23, st23⟩ := newP X0 hx hZ (hw _ (List.mem_of_getElem? (i := 1) rfl)) e0 (g := (mkF m 8 #[.val (.int p0), .val (.int p1), .val (.int p2), .val (.int p3), .val (.int (p0 &&& (16777215 : Int32))), .unset, .unset] [(.int (6 : Int32))])) rfl (hb hby at_8) rfl (by decide) (cap := 6) (by decide) (by decide) (by decide) (by decide)
  obtain ⟨b23, g23⟩ : ∃ z, z = h0.size := ⟨_, rfl⟩
  rw [← g23] at A23 st23
  have gg_b23 : n0 ≤ b23 := Nat.le_trans (Nat.le_trans Z0 K0.1) (Nat.le_of_eq g23.symm)
  have sz_b23 : h0.size ≤ b23 := Nat.le_trans K0.1 (Nat.le_of_eq g23.symm)
  have K23 := K0.ext E23
  have V23 : Arv Z h23 b23 k23 .byte (6 : Int32) [(.int (0 : Int32)), (.int (0 : Int32)), (.int (0 : Int32)), (.int (0 : Int32)), (.int (0 : Int32)), (.int (0 : Int32))] (.int (0 : Int32)) := (Arv.new A23 (by decide)).pad (pad_rep [] (.int (0 : Int32)) 6)
  obtain ⟨cl24, Ar24, q24, S24, M24, H24, G24⟩ := id V23
  have hin24 : ¬ ((0 : Int32) < 0 ∨ cl24.slots.size ≤ ((0 : Int32)).toNatClampNeg) := inb_of S24 ⟨by decide, by decide⟩
  obtain ⟨T25, h25, X25, e25, W25, st25⟩ := stB X23 hx hZ e23 Ar24 (j := (0 : Int32)) hin24 (g := (mkF m 17 #[.val (.int p0), .val (.int p1), .val (.int p2), .val (.int p3), .val (.int (p0 &&& (16777215 : Int32))), .val (.ref b23), .unset] [(.int (p1.toInt8.toInt32)), (.int (0 : Int32)), (.ref b23)])) rfl rfl (hb hby at_17)
  have V25 : Arv Z h25 b23 k23 .byte (6 : Int32) [(.int (nar .byte (p1.toInt8.toInt32))), (.int (0 : Int32)), (.int (0 : Int32)), (.int (0 : Int32)), (.int (0 : Int32)), (.int (0 : Int32))] (.int (0 : Int32)) := Arv.set Ar24 q24 S24 M24 H24 G24 (fits_nar_byte _) W25 0 rfl (Nat.le_of_ble_eq_true rfl)
  have K25 := K23.wr W25 (Or.inr sz_b23)
  have N25 := Fr.snoc X25 N0 gg_b23
  obtain ⟨cl26, Ar26, q26, S26, M26, H26, G26⟩ := id V25
  have hin26 : ¬ ((1 : Int32) < 0 ∨ cl26.slots.size ≤ ((1 : Int32)).toNatClampNeg) := inb_of S26 ⟨by decide, by decide⟩
  obtain ⟨T27, h27, X27, e27, W27, st27⟩ := stB X25 hx hZ e25 Ar26 (j := (1 : Int32)) hin26 (g := (mkF m 23 #[.val (.int p0), .val (.int p1), .val (.int p2), .val (.int p3), .val (.int (p0 &&& (16777215 : Int32))), .val (.ref b23), .unset] [(.int (p2.toInt8.toInt32)), (.int (1 : Int32)), (.ref b23)])) rfl rfl (hb hby at_23)
  have V27 : Arv Z h27 b23 k23 .byte (6 : Int32) [(.int (nar .byte (p1.toInt8.toInt32))), (.int (nar .byte (p2.toInt8.toInt32))), (.int (0 : Int32)), (.int (0 : Int32)), (.int (0 : Int32)), (.int (0 : Int32))] (.int (0 : Int32)) := Arv.set Ar26 q26 S26 M26 H26 G26 (fits_nar_byte _) W27 1 rfl (Nat.le_of_ble_eq_true rfl)
  have K27 := K25.wr W27 (Or.inr sz_b23)
  have N27 := Fr.snoc X27 N25 gg_b23
  obtain ⟨cl28, Ar28, q28, S28, M28, H28, G28⟩ := id V27
  have hin28 : ¬ ((2 : Int32) < 0 ∨ cl28.slots.size ≤ ((2 : Int32)).toNatClampNeg) := inb_of S28 ⟨by decide, by decide⟩
  obtain ⟨T29, h29, X29, e29, W29, st29⟩ := stB X27 hx hZ e27 Ar28 (j := (2 : Int32)) hin28 (g := (mkF m 33 #[.val (.int p0), .val (.int p1), .val (.int p2), .val (.int p3), .val (.int (p0 &&& (16777215 : Int32))), .val (.ref b23), .unset] [(.int ((((p0 &&& (16777215 : Int32)).toUInt32 >>> ((16 : Int32) &&& 31).toUInt32).toInt32).toInt8.toInt32)), (.int (2 : Int32)), (.ref b23)])) rfl rfl (hb hby at_33)
  have V29 : Arv Z h29 b23 k23 .byte (6 : Int32) [(.int (nar .byte (p1.toInt8.toInt32))), (.int (nar .byte (p2.toInt8.toInt32))), (.int (nar .byte ((((p0 &&& (16777215 : Int32)).toUInt32 >>> ((16 : Int32) &&& 31).toUInt32).toInt32).toInt8.toInt32))), (.int (0 : Int32)), (.int (0 : Int32)), (.int (0 : Int32))] (.int (0 : Int32)) := Arv.set Ar28 q28 S28 M28 H28 G28 (fits_nar_byte _) W29 2 rfl (Nat.le_of_ble_eq_true rfl)
  have K29 := K27.wr W29 (Or.inr sz_b23)
  have N29 := Fr.snoc X29 N27 gg_b23
  obtain ⟨cl30, Ar30, q30, S30, M30, H30, G30⟩ := id V29
  have hin30 : ¬ ((3 : Int32) < 0 ∨ cl30.slots.size ≤ ((3 : Int32)).toNatClampNeg) := inb_of S30 ⟨by decide, by decide⟩
  obtain ⟨T31, h31, X31, e31, W31, st31⟩ := stB X29 hx hZ e29 Ar30 (j := (3 : Int32)) hin30 (g := (mkF m 43 #[.val (.int p0), .val (.int p1), .val (.int p2), .val (.int p3), .val (.int (p0 &&& (16777215 : Int32))), .val (.ref b23), .unset] [(.int ((((p0 &&& (16777215 : Int32)).toUInt32 >>> ((8 : Int32) &&& 31).toUInt32).toInt32).toInt8.toInt32)), (.int (3 : Int32)), (.ref b23)])) rfl rfl (hb hby at_43)
  have V31 : Arv Z h31 b23 k23 .byte (6 : Int32) [(.int (nar .byte (p1.toInt8.toInt32))), (.int (nar .byte (p2.toInt8.toInt32))), (.int (nar .byte ((((p0 &&& (16777215 : Int32)).toUInt32 >>> ((16 : Int32) &&& 31).toUInt32).toInt32).toInt8.toInt32))), (.int (nar .byte ((((p0 &&& (16777215 : Int32)).toUInt32 >>> ((8 : Int32) &&& 31).toUInt32).toInt32).toInt8.toInt32))), (.int (0 : Int32)), (.int (0 : Int32))] (.int (0 : Int32)) := Arv.set Ar30 q30 S30 M30 H30 G30 (fits_nar_byte _) W31 3 rfl (Nat.le_of_ble_eq_true rfl)
  have K31 := K29.wr W31 (Or.inr sz_b23)
  have N31 := Fr.snoc X31 N29 gg_b23
  obtain ⟨cl32, Ar32, q32, S32, M32, H32, G32⟩ := id V31
  have hin32 : ¬ ((4 : Int32) < 0 ∨ cl32.slots.size ≤ ((4 : Int32)).toNatClampNeg) := inb_of S32 ⟨by decide, by decide⟩
  obtain ⟨T33, h33, X33, e33, W33, st33⟩ := stB X31 hx hZ e31 Ar32 (j := (4 : Int32)) hin32 (g := (mkF m 50 #[.val (.int p0), .val (.int p1), .val (.int p2), .val (.int p3), .val (.int (p0 &&& (16777215 : Int32))), .val (.ref b23), .unset] [(.int ((p0 &&& (16777215 : Int32)).toInt8.toInt32)), (.int (4 : Int32)), (.ref b23)])) rfl rfl (hb hby at_50)
  have V33 : Arv Z h33 b23 k23 .byte (6 : Int32) [(.int (nar .byte (p1.toInt8.toInt32))), (.int (nar .byte (p2.toInt8.toInt32))), (.int (nar .byte ((((p0 &&& (16777215 : Int32)).toUInt32 >>> ((16 : Int32) &&& 31).toUInt32).toInt32).toInt8.toInt32))), (.int (nar .byte ((((p0 &&& (16777215 : Int32)).toUInt32 >>> ((8 : Int32) &&& 31).toUInt32).toInt32).toInt8.toInt32))), (.int (nar .byte ((p0 &&& (16777215 : Int32)).toInt8.toInt32))), (.int (0 : Int32))] (.int (0 : Int32)) := Arv.set Ar32 q32 S32 M32 H32 G32 (fits_nar_byte _) W33 4 rfl (Nat.le_of_ble_eq_true rfl)
  have K33 := K31.wr W33 (Or.inr sz_b23)
  have N33 := Fr.snoc X33 N31 gg_b23
  obtain ⟨cl34, Ar34, q34, S34, M34, H34, G34⟩ := id V33
  have hin34 : ¬ ((5 : Int32) < 0 ∨ cl34.slots.size ≤ ((5 : Int32)).toNatClampNeg) := inb_of S34 ⟨by decide, by decide⟩
  obtain ⟨T35, h35, X35, e35, W35, st35⟩ := stB X33 hx hZ e33 Ar34 (j := (5 : Int32)) hin34 (g := (mkF m 56 #[.val (.int p0), .val (.int p1), .val (.int p2), .val (.int p3), .val (.int (p0 &&& (16777215 : Int32))), .val (.ref b23), .unset] [(.int (p3.toInt8.toInt32)), (.int (5 : Int32)), (.ref b23)])) rfl rfl (hb hby at_56)
  have V35 : Arv Z h35 b23 k23 .byte (6 : Int32) [(.int (nar .byte (p1.toInt8.toInt32))), (.int (nar .byte (p2.toInt8.toInt32))), (.int (nar .byte ((((p0 &&& (16777215 : Int32)).toUInt32 >>> ((16 : Int32) &&& 31).toUInt32).toInt32).toInt8.toInt32))), (.int (nar .byte ((((p0 &&& (16777215 : Int32)).toUInt32 >>> ((8 : Int32) &&& 31).toUInt32).toInt32).toInt8.toInt32))), (.int (nar .byte ((p0 &&& (16777215 : Int32)).toInt8.toInt32))), (.int (nar .byte (p3.toInt8.toInt32)))] (.int (0 : Int32)) := Arv.set Ar34 q34 S34 M34 H34 G34 (fits_nar_byte _) W35 5 rfl (Nat.le_of_ble_eq_true rfl)
  have K35 := K33.wr W35 (Or.inr sz_b23)
  have N35 := Fr.snoc X35 N33 gg_b23
  obtain ⟨T36, h36, X36, e36, E36, A36, D36, -, st36⟩ := newO X35 hx hZ hown (hw _ (List.mem_of_getElem? (i := 2) rfl)) (hw _ (List.mem_of_getElem? (i := 3) rfl)) (hw _ (List.mem_of_getElem? (i := 4) rfl)) e35 (g := (mkF m 57 #[.val (.int p0), .val (.int p1), .val (.int p2), .val (.int p3), .val (.int (p0 &&& (16777215 : Int32))), .val (.ref b23), .unset] [])) rfl (hb hby at_57) (by decide) (by decide)
  obtain ⟨b36, g36⟩ : ∃ z, z = h35.size := ⟨_, rfl⟩
  rw [← g36] at A36 D36 st36
  have ne_b23_b36 : b23 ≠ b36 := Nat.ne_of_lt (Nat.lt_of_lt_of_le V35.lt (Nat.le_of_eq g36.symm))
  have gg_b36 : n0 ≤ b36 := Nat.le_trans (Nat.le_trans Z0 K35.1) (Nat.le_of_eq g36.symm)
  have sz_b36 : h0.size ≤ b36 := Nat.le_trans K35.1 (Nat.le_of_eq g36.symm)
  have K36 := K35.ext E36
  have F36_quality : Fld Z h36 b36 "com/example/linkbook/linkbook/frames/Frame" "quality" "Lcom/example/linkbook/linkbook/frames/Frame$Quality;" .null := D36 (Or.inl (hw _ (List.mem_of_getElem? (i := 15) rfl))) (ty := (.object "com/example/linkbook/linkbook/frames/Frame$Quality")) (by decide)
  have F36_profile : Fld Z h36 b36 "com/example/linkbook/linkbook/frames/Frame" "profile" "Lcom/example/linkbook/linkbook/profile/LinkProfile;" .null := D36 (Or.inr (hw _ (List.mem_of_getElem? (i := 17) rfl))) (ty := (.object "com/example/linkbook/linkbook/profile/LinkProfile")) (by decide)
  have F36_data : Fld Z h36 b36 "com/example/linkbook/linkbook/frames/Frame" "data" "[B" .null := D36 (Or.inr (hw _ (List.mem_of_getElem? (i := 19) rfl))) (ty := (.array .byte)) (by decide)
  have Q37 := ((((((((S_GOOD.ext E23).wr W25).wr W27).wr W29).wr W31).wr W33).wr W35).ext E36)
  obtain ⟨_, _, ⟨T38, L38, k38, n38⟩, -, X38, ⟨Lc38, hQ38, l38, y38, z38⟩, st38⟩ := X36.specialBack hx (y := (⟨"com/example/linkbook/linkbook/frames/Frame", "<init>", "(Lcom/example/linkbook/linkbook/profile/LinkProfile;[B)V"⟩ : MethodName)) rfl hown (mvT hZ (hw _ (List.mem_of_getElem? (i := 5) rfl))) (mvT hZ (hw _ (List.mem_of_getElem? (i := 6) rfl))) (mvT hZ (hw _ (List.mem_of_getElem? (i := 7) rfl))) (by decide) (backOf (W := 1) (rm1 l Z a0 hw [] b36 b23 og h36 n0 (Nat.le_trans Z0 K36.1) A36 F36_quality F36_profile F36_data gg_b36 Q37) hZ (hw _ (List.mem_of_getElem? (i := 7) rfl)) (hw _ (List.mem_of_getElem? (i := 4) rfl)) (by decide) (by decide)) (g := (mkF m 64 #[.val (.int p0), .val (.int p1), .val (.int p2), .val (.int p3), .val (.int (p0 &&& (16777215 : Int32))), .val (.ref b23), .unset] [(.ref b23), .null, (.ref b36), (.ref b36)])) rfl (by rw [hml]; rfl) (Steps.refl _) (a := b36) (argsL := [.null, (.ref b23)]) (rest := [(.ref b36)]) (lenOf own_pd0 rfl) rfl (by show 2 * 0 + _ ≤ _; exact Nat.le_of_eq rfl) (hb hby at_64) (fun _ _ => ⟨rfl, e36, (by decide : 2 + 0 ≤ _), (by decide : 14 + 0 ≤ _)⟩)
  dsimp only [Pt.U, Pt.locs, Pt.cells, Pt.slots] at X38 l38 y38 z38 st38 hQ38
  subst l38 y38 z38
  obtain ⟨rfl, N38q, i38_2, i38_3, i38_4⟩ := hQ38
  have N38 := Fr.app N35 N38q
  have K38 := K36.trans i38_2 (allS (Or.inr sz_b36) all0)
  have Q39 := ((V35.ext E36).keep i38_2 (ninS ne_b23_b36 nin0))
  obtain ⟨cq40, kq40, q40a, q40b, q40c⟩ := isOf hZ rfl i38_3
  obtain ⟨_, _, ⟨T40, L40, k40, n40⟩, -, X40, ⟨Lc40, hQ40, l40, y40, z40⟩, st40⟩ := X38.virtualBack hx (y := (⟨"com/example/linkbook/linkbook/frames/Frame", "counter", "()I"⟩ : MethodName)) (z := (⟨"com/example/linkbook/linkbook/frames/Frame", "counter", "()I"⟩ : MethodName)) hown (mvT hZ (hw _ (List.mem_of_getElem? (i := 20) rfl))) (mvT hZ (hw _ (List.mem_of_getElem? (i := 21) rfl))) (notFace_of_selects (args := #[]) (mvT hZ (hw _ (List.mem_of_getElem? (i := 23) rfl)))) (mvT hZ (hw _ (List.mem_of_getElem? (i := 23) rfl))) (mvT hZ (hw _ (List.mem_of_getElem? (i := 22) rfl))) (by decide) (backOf (W := 0) (rm3 l Z a0 hw [] b36 b23 k23 (nar .byte (p1.toInt8.toInt32)) (nar .byte (p2.toInt8.toInt32)) (nar .byte ((((p0 &&& (16777215 : Int32)).toUInt32 >>> ((16 : Int32) &&& 31).toUInt32).toInt32).toInt8.toInt32)) (nar .byte ((((p0 &&& (16777215 : Int32)).toUInt32 >>> ((8 : Int32) &&& 31).toUInt32).toInt32).toInt8.toInt32)) (nar .byte ((p0 &&& (16777215 : Int32)).toInt8.toInt32)) (nar .byte (p3.toInt8.toInt32)) T38.heap n0 (Nat.le_trans Z0 K38.1) i38_4 Q39) hZ (hw _ (List.mem_of_getElem? (i := 24) rfl)) (hw _ (List.mem_of_getElem? (i := 4) rfl)) (by decide) (by decide)) q40a q40c (g := (mkF m 71 #[.val (.int p0), .val (.int p1), .val (.int p2), .val (.int p3), .val (.int (p0 &&& (16777215 : Int32))), .val (.ref b23), .val (.ref b36)] [(.ref b36)])) rfl (by rw [hml]; rfl) (Steps.refl _) (argsL := []) (rest := []) (lenOf own_pd1 rfl) rfl (by show 2 * 0 + _ ≤ _; exact Nat.le_of_eq rfl) (hb hby at_71) (fun _ _ => ⟨rfl, rfl, (by decide : 2 + 0 ≤ _), (by decide : 14 + 0 ≤ _)⟩)
  dsimp only [Pt.U, Pt.locs, Pt.cells, Pt.slots] at X40 l40 y40 z40 st40 hQ40
  subst l40 y40 z40
  obtain ⟨rfl, N40q, e40⟩ := hQ40
  have N40 := Fr.app N38 N40q
  have hc76_41 : (own_f_rm3 (nar .byte (p1.toInt8.toInt32)) (nar .byte (p2.toInt8.toInt32)) (nar .byte ((((p0 &&& (16777215 : Int32)).toUInt32 >>> ((16 : Int32) &&& 31).toUInt32).toInt32).toInt8.toInt32)) (nar .byte ((((p0 &&& (16777215 : Int32)).toUInt32 >>> ((8 : Int32) &&& 31).toUInt32).toInt32).toInt8.toInt32)) (nar .byte ((p0 &&& (16777215 : Int32)).toInt8.toInt32)) (nar .byte (p3.toInt8.toInt32))) = (p0 &&& (16777215 : Int32)) := own_eq _ _ _ _
  obtain ⟨fs, hr, hrun, hended, hW, hsame⟩ := X40.leave (v := some (.int (1 : Int32))) (fun h => by rw [Bd.returns] at h; cases h)
  refine ⟨_, _, pre0 _ ?_, hrun, hended, _, _, rfl, ?_, ⟨_, rfl⟩, hW, hsame.mono (by decide) (by decide)⟩
  · show Steps p.tables e below (s₁.setTop (mkF m 0 #[.val (.int p0), .val (.int p1), .val (.int p2), .val (.int p3), .unset, .unset, .unset] [])) _
    refine XS.iloadN X0.here hx rfl (hb hby at_0) rfl ?_
    show Steps p.tables e below (s₁.setTop (mkF m 1 #[.val (.int p0), .val (.int p1), .val (.int p2), .val (.int p3), .unset, .unset, .unset] [(.int p0)])) _
    refine X0.ldcInt hx hown (mvT hZ (hw _ (List.mem_of_getElem? (i := 0) rfl))) (g := (mkF m 1 #[.val (.int p0), .val (.int p1), .val (.int p2), .val (.int p3), .unset, .unset, .unset] [(.int p0)])) rfl (hb hby at_1) _ ?_
    show Steps p.tables e below (s₁.setTop (mkF m 3 #[.val (.int p0), .val (.int p1), .val (.int p2), .val (.int p3), .unset, .unset, .unset] [(.int (16777215 : Int32)), (.int p0)])) _
    refine XS.iand X0.here hx rfl (hb hby at_3) rfl ?_
    show Steps p.tables e below (s₁.setTop (mkF m 4 #[.val (.int p0), .val (.int p1), .val (.int p2), .val (.int p3), .unset, .unset, .unset] [(.int (p0 &&& (16777215 : Int32)))])) _
    refine XS.istore X0.here hx rfl (hb hby at_4) rfl (l' := #[.val (.int p0), .val (.int p1), .val (.int p2), .val (.int p3), .val (.int (p0 &&& (16777215 : Int32))), .unset, .unset]) rfl ?_
    show Steps p.tables e below (s₁.setTop (mkF m 6 #[.val (.int p0), .val (.int p1), .val (.int p2), .val (.int p3), .val (.int (p0 &&& (16777215 : Int32))), .unset, .unset] [])) _
    refine XS.bipush X0.here hx rfl (hb hby at_6) ?_
    show Steps p.tables e below (s₁.setTop (mkF m 8 #[.val (.int p0), .val (.int p1), .val (.int p2), .val (.int p3), .val (.int (p0 &&& (16777215 : Int32))), .unset, .unset] [(.int (6 : Int32))])) _
    refine st23 _ ?_
    show Steps p.tables e below (T23.setTop (mkF m 10 #[.val (.int p0), .val (.int p1), .val (.int p2), .val (.int p3), .val (.int (p0 &&& (16777215 : Int32))), .unset, .unset] [(.ref b23)])) _
    refine XS.astore X23.here hx rfl (hb hby at_10) rfl rfl (l' := #[.val (.int p0), .val (.int p1), .val (.int p2), .val (.int p3), .val (.int (p0 &&& (16777215 : Int32))), .val (.ref b23), .unset]) rfl ?_
    show Steps p.tables e below (T23.setTop (mkF m 12 #[.val (.int p0), .val (.int p1), .val (.int p2), .val (.int p3), .val (.int (p0 &&& (16777215 : Int32))), .val (.ref b23), .unset] [])) _
    refine XS.aload X23.here hx rfl (hb hby at_12) rfl rfl ?_
    show Steps p.tables e below (T23.setTop (mkF m 14 #[.val (.int p0), .val (.int p1), .val (.int p2), .val (.int p3), .val (.int (p0 &&& (16777215 : Int32))), .val (.ref b23), .unset] [(.ref b23)])) _
    refine XS.iconst X23.here hx rfl (hb hby at_14) ?_
    show Steps p.tables e below (T23.setTop (mkF m 15 #[.val (.int p0), .val (.int p1), .val (.int p2), .val (.int p3), .val (.int (p0 &&& (16777215 : Int32))), .val (.ref b23), .unset] [(.int (0 : Int32)), (.ref b23)])) _
    refine XS.iloadN X23.here hx rfl (hb hby at_15) rfl ?_
    show Steps p.tables e below (T23.setTop (mkF m 16 #[.val (.int p0), .val (.int p1), .val (.int p2), .val (.int p3), .val (.int (p0 &&& (16777215 : Int32))), .val (.ref b23), .unset] [(.int p1), (.int (0 : Int32)), (.ref b23)])) _
    refine XS.i2b X23.here hx rfl (hb hby at_16) rfl ?_
    show Steps p.tables e below (T23.setTop (mkF m 17 #[.val (.int p0), .val (.int p1), .val (.int p2), .val (.int p3), .val (.int (p0 &&& (16777215 : Int32))), .val (.ref b23), .unset] [(.int (p1.toInt8.toInt32)), (.int (0 : Int32)), (.ref b23)])) _
    refine st25 _ ?_
    show Steps p.tables e below (T25.setTop (mkF m 18 #[.val (.int p0), .val (.int p1), .val (.int p2), .val (.int p3), .val (.int (p0 &&& (16777215 : Int32))), .val (.ref b23), .unset] [])) _
    refine XS.aload X25.here hx rfl (hb hby at_18) rfl rfl ?_
    show Steps p.tables e below (T25.setTop (mkF m 20 #[.val (.int p0), .val (.int p1), .val (.int p2), .val (.int p3), .val (.int (p0 &&& (16777215 : Int32))), .val (.ref b23), .unset] [(.ref b23)])) _
    refine XS.iconst X25.here hx rfl (hb hby at_20) ?_
    show Steps p.tables e below (T25.setTop (mkF m 21 #[.val (.int p0), .val (.int p1), .val (.int p2), .val (.int p3), .val (.int (p0 &&& (16777215 : Int32))), .val (.ref b23), .unset] [(.int (1 : Int32)), (.ref b23)])) _
    refine XS.iloadN X25.here hx rfl (hb hby at_21) rfl ?_
    show Steps p.tables e below (T25.setTop (mkF m 22 #[.val (.int p0), .val (.int p1), .val (.int p2), .val (.int p3), .val (.int (p0 &&& (16777215 : Int32))), .val (.ref b23), .unset] [(.int p2), (.int (1 : Int32)), (.ref b23)])) _
    refine XS.i2b X25.here hx rfl (hb hby at_22) rfl ?_
    show Steps p.tables e below (T25.setTop (mkF m 23 #[.val (.int p0), .val (.int p1), .val (.int p2), .val (.int p3), .val (.int (p0 &&& (16777215 : Int32))), .val (.ref b23), .unset] [(.int (p2.toInt8.toInt32)), (.int (1 : Int32)), (.ref b23)])) _
    refine st27 _ ?_
    show Steps p.tables e below (T27.setTop (mkF m 24 #[.val (.int p0), .val (.int p1), .val (.int p2), .val (.int p3), .val (.int (p0 &&& (16777215 : Int32))), .val (.ref b23), .unset] [])) _
    refine XS.aload X27.here hx rfl (hb hby at_24) rfl rfl ?_
    show Steps p.tables e below (T27.setTop (mkF m 26 #[.val (.int p0), .val (.int p1), .val (.int p2), .val (.int p3), .val (.int (p0 &&& (16777215 : Int32))), .val (.ref b23), .unset] [(.ref b23)])) _
    refine XS.iconst X27.here hx rfl (hb hby at_26) ?_
    show Steps p.tables e below (T27.setTop (mkF m 27 #[.val (.int p0), .val (.int p1), .val (.int p2), .val (.int p3), .val (.int (p0 &&& (16777215 : Int32))), .val (.ref b23), .unset] [(.int (2 : Int32)), (.ref b23)])) _
    refine XS.iload X27.here hx rfl (hb hby at_27) rfl ?_
    show Steps p.tables e below (T27.setTop (mkF m 29 #[.val (.int p0), .val (.int p1), .val (.int p2), .val (.int p3), .val (.int (p0 &&& (16777215 : Int32))), .val (.ref b23), .unset] [(.int (p0 &&& (16777215 : Int32))), (.int (2 : Int32)), (.ref b23)])) _
    refine XS.bipush X27.here hx rfl (hb hby at_29) ?_
    show Steps p.tables e below (T27.setTop (mkF m 31 #[.val (.int p0), .val (.int p1), .val (.int p2), .val (.int p3), .val (.int (p0 &&& (16777215 : Int32))), .val (.ref b23), .unset] [(.int (16 : Int32)), (.int (p0 &&& (16777215 : Int32))), (.int (2 : Int32)), (.ref b23)])) _
    refine XS.iushr X27.here hx rfl (hb hby at_31) rfl ?_
    show Steps p.tables e below (T27.setTop (mkF m 32 #[.val (.int p0), .val (.int p1), .val (.int p2), .val (.int p3), .val (.int (p0 &&& (16777215 : Int32))), .val (.ref b23), .unset] [(.int (((p0 &&& (16777215 : Int32)).toUInt32 >>> ((16 : Int32) &&& 31).toUInt32).toInt32)), (.int (2 : Int32)), (.ref b23)])) _
    refine XS.i2b X27.here hx rfl (hb hby at_32) rfl ?_
    show Steps p.tables e below (T27.setTop (mkF m 33 #[.val (.int p0), .val (.int p1), .val (.int p2), .val (.int p3), .val (.int (p0 &&& (16777215 : Int32))), .val (.ref b23), .unset] [(.int ((((p0 &&& (16777215 : Int32)).toUInt32 >>> ((16 : Int32) &&& 31).toUInt32).toInt32).toInt8.toInt32)), (.int (2 : Int32)), (.ref b23)])) _
    refine st29 _ ?_
    show Steps p.tables e below (T29.setTop (mkF m 34 #[.val (.int p0), .val (.int p1), .val (.int p2), .val (.int p3), .val (.int (p0 &&& (16777215 : Int32))), .val (.ref b23), .unset] [])) _
    refine XS.aload X29.here hx rfl (hb hby at_34) rfl rfl ?_
    show Steps p.tables e below (T29.setTop (mkF m 36 #[.val (.int p0), .val (.int p1), .val (.int p2), .val (.int p3), .val (.int (p0 &&& (16777215 : Int32))), .val (.ref b23), .unset] [(.ref b23)])) _
    refine XS.iconst X29.here hx rfl (hb hby at_36) ?_
    show Steps p.tables e below (T29.setTop (mkF m 37 #[.val (.int p0), .val (.int p1), .val (.int p2), .val (.int p3), .val (.int (p0 &&& (16777215 : Int32))), .val (.ref b23), .unset] [(.int (3 : Int32)), (.ref b23)])) _
    refine XS.iload X29.here hx rfl (hb hby at_37) rfl ?_
    show Steps p.tables e below (T29.setTop (mkF m 39 #[.val (.int p0), .val (.int p1), .val (.int p2), .val (.int p3), .val (.int (p0 &&& (16777215 : Int32))), .val (.ref b23), .unset] [(.int (p0 &&& (16777215 : Int32))), (.int (3 : Int32)), (.ref b23)])) _
    refine XS.bipush X29.here hx rfl (hb hby at_39) ?_
    show Steps p.tables e below (T29.setTop (mkF m 41 #[.val (.int p0), .val (.int p1), .val (.int p2), .val (.int p3), .val (.int (p0 &&& (16777215 : Int32))), .val (.ref b23), .unset] [(.int (8 : Int32)), (.int (p0 &&& (16777215 : Int32))), (.int (3 : Int32)), (.ref b23)])) _
    refine XS.iushr X29.here hx rfl (hb hby at_41) rfl ?_
    show Steps p.tables e below (T29.setTop (mkF m 42 #[.val (.int p0), .val (.int p1), .val (.int p2), .val (.int p3), .val (.int (p0 &&& (16777215 : Int32))), .val (.ref b23), .unset] [(.int (((p0 &&& (16777215 : Int32)).toUInt32 >>> ((8 : Int32) &&& 31).toUInt32).toInt32)), (.int (3 : Int32)), (.ref b23)])) _
    refine XS.i2b X29.here hx rfl (hb hby at_42) rfl ?_
    show Steps p.tables e below (T29.setTop (mkF m 43 #[.val (.int p0), .val (.int p1), .val (.int p2), .val (.int p3), .val (.int (p0 &&& (16777215 : Int32))), .val (.ref b23), .unset] [(.int ((((p0 &&& (16777215 : Int32)).toUInt32 >>> ((8 : Int32) &&& 31).toUInt32).toInt32).toInt8.toInt32)), (.int (3 : Int32)), (.ref b23)])) _
    refine st31 _ ?_
    show Steps p.tables e below (T31.setTop (mkF m 44 #[.val (.int p0), .val (.int p1), .val (.int p2), .val (.int p3), .val (.int (p0 &&& (16777215 : Int32))), .val (.ref b23), .unset] [])) _
    refine XS.aload X31.here hx rfl (hb hby at_44) rfl rfl ?_
    show Steps p.tables e below (T31.setTop (mkF m 46 #[.val (.int p0), .val (.int p1), .val (.int p2), .val (.int p3), .val (.int (p0 &&& (16777215 : Int32))), .val (.ref b23), .unset] [(.ref b23)])) _
    refine XS.iconst X31.here hx rfl (hb hby at_46) ?_
    show Steps p.tables e below (T31.setTop (mkF m 47 #[.val (.int p0), .val (.int p1), .val (.int p2), .val (.int p3), .val (.int (p0 &&& (16777215 : Int32))), .val (.ref b23), .unset] [(.int (4 : Int32)), (.ref b23)])) _
    refine XS.iload X31.here hx rfl (hb hby at_47) rfl ?_
    show Steps p.tables e below (T31.setTop (mkF m 49 #[.val (.int p0), .val (.int p1), .val (.int p2), .val (.int p3), .val (.int (p0 &&& (16777215 : Int32))), .val (.ref b23), .unset] [(.int (p0 &&& (16777215 : Int32))), (.int (4 : Int32)), (.ref b23)])) _
    refine XS.i2b X31.here hx rfl (hb hby at_49) rfl ?_
    show Steps p.tables e below (T31.setTop (mkF m 50 #[.val (.int p0), .val (.int p1), .val (.int p2), .val (.int p3), .val (.int (p0 &&& (16777215 : Int32))), .val (.ref b23), .unset] [(.int ((p0 &&& (16777215 : Int32)).toInt8.toInt32)), (.int (4 : Int32)), (.ref b23)])) _
    refine st33 _ ?_
    show Steps p.tables e below (T33.setTop (mkF m 51 #[.val (.int p0), .val (.int p1), .val (.int p2), .val (.int p3), .val (.int (p0 &&& (16777215 : Int32))), .val (.ref b23), .unset] [])) _
    refine XS.aload X33.here hx rfl (hb hby at_51) rfl rfl ?_
    show Steps p.tables e below (T33.setTop (mkF m 53 #[.val (.int p0), .val (.int p1), .val (.int p2), .val (.int p3), .val (.int (p0 &&& (16777215 : Int32))), .val (.ref b23), .unset] [(.ref b23)])) _
    refine XS.iconst X33.here hx rfl (hb hby at_53) ?_
    show Steps p.tables e below (T33.setTop (mkF m 54 #[.val (.int p0), .val (.int p1), .val (.int p2), .val (.int p3), .val (.int (p0 &&& (16777215 : Int32))), .val (.ref b23), .unset] [(.int (5 : Int32)), (.ref b23)])) _
    refine XS.iloadN X33.here hx rfl (hb hby at_54) rfl ?_
    show Steps p.tables e below (T33.setTop (mkF m 55 #[.val (.int p0), .val (.int p1), .val (.int p2), .val (.int p3), .val (.int (p0 &&& (16777215 : Int32))), .val (.ref b23), .unset] [(.int p3), (.int (5 : Int32)), (.ref b23)])) _
    refine XS.i2b X33.here hx rfl (hb hby at_55) rfl ?_
    show Steps p.tables e below (T33.setTop (mkF m 56 #[.val (.int p0), .val (.int p1), .val (.int p2), .val (.int p3), .val (.int (p0 &&& (16777215 : Int32))), .val (.ref b23), .unset] [(.int (p3.toInt8.toInt32)), (.int (5 : Int32)), (.ref b23)])) _
    refine st35 _ ?_
    show Steps p.tables e below (T35.setTop (mkF m 57 #[.val (.int p0), .val (.int p1), .val (.int p2), .val (.int p3), .val (.int (p0 &&& (16777215 : Int32))), .val (.ref b23), .unset] [])) _
    refine st36 _ ?_
    show Steps p.tables e below (T36.setTop (mkF m 60 #[.val (.int p0), .val (.int p1), .val (.int p2), .val (.int p3), .val (.int (p0 &&& (16777215 : Int32))), .val (.ref b23), .unset] [(.ref b36)])) _
    refine XS.dup X36.here hx rfl (hb hby at_60) rfl rfl ?_
    show Steps p.tables e below (T36.setTop (mkF m 61 #[.val (.int p0), .val (.int p1), .val (.int p2), .val (.int p3), .val (.int (p0 &&& (16777215 : Int32))), .val (.ref b23), .unset] [(.ref b36), (.ref b36)])) _
    refine XS.aconstNull X36.here hx rfl (hb hby at_61) ?_
    show Steps p.tables e below (T36.setTop (mkF m 62 #[.val (.int p0), .val (.int p1), .val (.int p2), .val (.int p3), .val (.int (p0 &&& (16777215 : Int32))), .val (.ref b23), .unset] [.null, (.ref b36), (.ref b36)])) _
    refine XS.aload X36.here hx rfl (hb hby at_62) rfl rfl ?_
    show Steps p.tables e below (T36.setTop (mkF m 64 #[.val (.int p0), .val (.int p1), .val (.int p2), .val (.int p3), .val (.int (p0 &&& (16777215 : Int32))), .val (.ref b23), .unset] [(.ref b23), .null, (.ref b36), (.ref b36)])) _
    refine st38.trans ?_
    show Steps p.tables e below (T38.setTop (mkF m 67 #[.val (.int p0), .val (.int p1), .val (.int p2), .val (.int p3), .val (.int (p0 &&& (16777215 : Int32))), .val (.ref b23), .unset] [(.ref b36)])) _
    refine XS.astore X38.here hx rfl (hb hby at_67) rfl rfl (l' := #[.val (.int p0), .val (.int p1), .val (.int p2), .val (.int p3), .val (.int (p0 &&& (16777215 : Int32))), .val (.ref b23), .val (.ref b36)]) rfl ?_
    show Steps p.tables e below (T38.setTop (mkF m 69 #[.val (.int p0), .val (.int p1), .val (.int p2), .val (.int p3), .val (.int (p0 &&& (16777215 : Int32))), .val (.ref b23), .val (.ref b36)] [])) _
    refine XS.aload X38.here hx rfl (hb hby at_69) rfl rfl ?_
    show Steps p.tables e below (T38.setTop (mkF m 71 #[.val (.int p0), .val (.int p1), .val (.int p2), .val (.int p3), .val (.int (p0 &&& (16777215 : Int32))), .val (.ref b23), .val (.ref b36)] [(.ref b36)])) _
    refine st40.trans ?_
    show Steps p.tables e below (T40.setTop (mkF m 74 #[.val (.int p0), .val (.int p1), .val (.int p2), .val (.int p3), .val (.int (p0 &&& (16777215 : Int32))), .val (.ref b23), .val (.ref b36)] [(.int (own_f_rm3 (nar .byte (p1.toInt8.toInt32)) (nar .byte (p2.toInt8.toInt32)) (nar .byte ((((p0 &&& (16777215 : Int32)).toUInt32 >>> ((16 : Int32) &&& 31).toUInt32).toInt32).toInt8.toInt32)) (nar .byte ((((p0 &&& (16777215 : Int32)).toUInt32 >>> ((8 : Int32) &&& 31).toUInt32).toInt32).toInt8.toInt32)) (nar .byte ((p0 &&& (16777215 : Int32)).toInt8.toInt32)) (nar .byte (p3.toInt8.toInt32))))])) _
    refine XS.iload X40.here hx rfl (hb hby at_74) rfl ?_
    show Steps p.tables e below (T40.setTop (mkF m 76 #[.val (.int p0), .val (.int p1), .val (.int p2), .val (.int p3), .val (.int (p0 &&& (16777215 : Int32))), .val (.ref b23), .val (.ref b36)] [(.int (p0 &&& (16777215 : Int32))), (.int (own_f_rm3 (nar .byte (p1.toInt8.toInt32)) (nar .byte (p2.toInt8.toInt32)) (nar .byte ((((p0 &&& (16777215 : Int32)).toUInt32 >>> ((16 : Int32) &&& 31).toUInt32).toInt32).toInt8.toInt32)) (nar .byte ((((p0 &&& (16777215 : Int32)).toUInt32 >>> ((8 : Int32) &&& 31).toUInt32).toInt32).toInt8.toInt32)) (nar .byte ((p0 &&& (16777215 : Int32)).toInt8.toInt32)) (nar .byte (p3.toInt8.toInt32))))])) _
    refine XS.icmpNo X40.here hx rfl (hb hby at_76) rfl (teq hc76_41).2 ?_
    show Steps p.tables e below (T40.setTop (mkF m 79 #[.val (.int p0), .val (.int p1), .val (.int p2), .val (.int p3), .val (.int (p0 &&& (16777215 : Int32))), .val (.ref b23), .val (.ref b36)] [])) _
    refine XS.iconst X40.here hx rfl (hb hby at_79) ?_
    show Steps p.tables e below (T40.setTop (mkF m 80 #[.val (.int p0), .val (.int p1), .val (.int p2), .val (.int p3), .val (.int (p0 &&& (16777215 : Int32))), .val (.ref b23), .val (.ref b36)] [(.int (1 : Int32))])) _
    refine XS.goto X40.here hx rfl (pc0 := 80) (pc' := 84) rfl (hb hby at_80) (by decide) (by decide) ?_
    show Steps p.tables e below (T40.setTop (mkF m 84 #[.val (.int p0), .val (.int p1), .val (.int p2), .val (.int p3), .val (.int (p0 &&& (16777215 : Int32))), .val (.ref b23), .val (.ref b36)] [(.int (1 : Int32))])) _
    exact retN X40 hx (t := .boolean) Bd.returns (by simp) (hb hby at_84) hr
  · show Q0 Z p0 p1 p2 p3 og h0 n0 _ T40.heap _
    rw [e40]
    exact ⟨rfl, N40⟩
set_option maxRecDepth 65536 in
set_option maxHeartbeats 40000000 in
theorem comes_1 {Post : Tables → Env → Array Value → State → Outcome → State → Prop} (hpost : ∀ tb e args s v u, (limb_1_1.after args s (.returned v) u = true ∧ limb_1_2.after args s (.returned v) u = true ∧ True) → FrameEnd s (.returned v) u (Jvm.fieldLocs frame_1_writes args s ++ Jvm.arrayLocs frame_1_arrays args s ++ Jvm.staticLocs frame_1_statics s) 16 128 → Post tb e args s (.returned v) u) :
    ArmFor flags0 classFile x code maxLocals ret World_1 tables_1 room_1 Calls_1 rest_1 Pre_1 Post := by
  intro l hfl _ _ p e ha hc hk s m args below hf hA hF happ hP
  obtain ⟨hcalls, hrest, hpre⟩ := hP
  obtain ⟨-, -, -, hnamed, -, -, -, hat⟩ := (Spec.applies_iff hf).mp happ
  obtain ⟨hg, hn⟩ := and_e (Cond.before_iff.mp (show (Jvm.Cond.and given_1 narrow_1).before args s = true from hpre))
  obtain ⟨hcount, hg0⟩ := and_e hg
  obtain ⟨hi0, hg1⟩ := and_e hg0
  obtain ⟨hi1, hg2⟩ := and_e hg1
  obtain ⟨hi2, hg3⟩ := and_e hg2
  have hi3 := hg3
  obtain ⟨w0, w1, w2, w3, rfl⟩ : ∃ w0 w1 w2 w3 : Value, args = #[w0, w1, w2, w3] := by
    have hs : args.size = 4 := by simpa [Cond.value, given_1] using hcount
    obtain ⟨L⟩ := args
    match L, hs with
    | [w0, w1, w2, w3], _ => exact ⟨w0, w1, w2, w3, rfl⟩
  have hw := fun d (hd : d ∈ tables_1) => atoms_spec (ws := Jvm.Cond.code x code maxLocals ret :: tables_1) hat d (List.mem_cons_of_mem _ hd)
  have hfit : Fit s := fun {y c} hc i hi => by
    obtain ⟨ha, rfl⟩ := Array.getElem?_eq_some_iff.mp hc
    have q := List.all_eq_true.mp ((Array.all_eq_true_iff_forall_mem.mp hF) _ (Array.getElem_mem ha)) i (List.mem_range.mpr hi)
    simpa [Array.getElem?_eq_getElem hi] using q
  obtain ⟨i0, ei0⟩ := is_v hi0
  obtain rfl : w0 = (.int i0) := Option.some.inj ei0
  obtain ⟨i1, ei1⟩ := is_v hi1
  obtain rfl : w1 = (.int i1) := Option.some.inj ei1
  obtain ⟨i2, ei2⟩ := is_v hi2
  obtain rfl : w2 = (.int i2) := Option.some.inj ei2
  obtain ⟨i3, ei3⟩ := is_v hi3
  obtain rfl : w3 = (.int i3) := Option.some.inj ei3
  obtain ⟨og, ev_og⟩ := exa_v hn
  have E_og := Exa.start ev_og hn
  have S_GOOD : Sta s s.heap "com/example/linkbook/linkbook/frames/Frame$Quality" "GOOD" "Lcom/example/linkbook/linkbook/frames/Frame$Quality;" (.ref og) := Sta.start ev_og (Or.inr ⟨(hw _ (List.mem_of_getElem? (i := 12) rfl)), (hw _ (List.mem_of_getElem? (i := 13) rfl))⟩)
  obtain ⟨n, o, h1, h2, h3, _, L, rfl, ⟨rfl, N⟩, hq⟩ := rm0 l s _ hw tables_1 i0 i1 i2 i3 og s.heap s.heap.size (Nat.le_refl _) S_GOOD p e ha hc hk s m _ below hf ((Spec.applies_iff_loose hf).mp happ).1 ⟨rfl, State.Warmed39.refl s, rfl⟩ trivial
  refine ⟨n, _, h1, h2, h3, hpost _ _ _ _ _ _ ⟨Cond.after_iff.mpr rfl, Cond.after_iff.mpr (eq_i res_at (Term.int_eval (1)) rfl), trivial⟩ ⟨hq.1, hq.2.1, (hq.2.2.sift fun y hy => Or.inr (N y hy)).mono (by decide) (by decide)⟩⟩
theorem main_1_1 : Claimed_1_1 := comes_1 fun _ _ _ _ _ _ h hF => ⟨h.1, hF⟩
theorem main_1_2 : Claimed_1_2 := comes_1 fun _ _ _ _ _ _ h hF => ⟨h.2.1, hF⟩
end Jvm.Pilot.@@N@@
namespace Jvm.Pilot.@@N@@
open Jvm Jvm.ClassFile Sem Op Lib Jvm.Free Jvm.Stand Jvm.Pilot.@@N@@.Jvm.D
/-! MADE BY PROGRAM (witnessworld.py) out of the Statement's table words and the real class files: 13 classes; the members and pool entries that the words name. The judged class is class 1, her method 1. -/
namespace start1
open Jvm.ClassFile
def u (s : String) : CpInfo := .utf8 (stringToUtf16 s)
/-- a pool by its gaps: so many unusable entries, then the entry; so many at the end -/
def gap : Nat → List CpInfo → List CpInfo
  | 0, r => r
  | n + 1, r => .unusable :: gap n r
def poolList (es : List (Nat × CpInfo)) (last : Nat) : List CpInfo := es.foldr (fun e r => gap e.1 (e.2 :: r)) (gap last [])
def pool (es : List (Nat × CpInfo)) (last : Nat) : Array CpInfo := ⟨poolList es last⟩
def fileOf (pool : Array CpInfo) (this : Nat) (attrs : Array Attribute := #[]) (ms : Array MethodInfo := #[]) (fl : Nat := 33) (sup : Nat := 0) (ifs : Array Nat := #[]) (fds : Array FieldInfo := #[]) : ClassFile where
  minorVersion := 0
  majorVersion := 65
  constantPool := pool
  accessFlags := fl
  thisClass := this
  superClass := sup
  interfaces := ifs
  fields := fds
  methods := ms
  attributes := attrs
def plain (name : String) (sup : Option ClassId) : Class where
  name := name
  kind := .ordinary
  loader := none
  accessFlags := 33
  super := sup
  interfaces := #[]
  cf := none
  fields := #[]
  methods := #[]
  instanceTypes := #[]
  staticTypes := #[]
  resolved := #[]
  callSites := []
  init := .initialized
  statics := none
  mirror := none

def pool0 : Array CpInfo := pool [(5, u "<init>"), (0, u "()V"), (1, .class_ 10), (1, u "java/lang/Object")] 113

def k0c0 : Code := { maxStack := 0, maxLocals := 1, code := object_method_1_code, exceptionTable := #[], attributes := #[] }
def k0m0 : Method := { name := "<init>", desc := "()V", sig := { parameters := [], returnType := none }, accessFlags := 1, code := some k0c0 }
/-- java/lang/Object -/
def k0 : Class := { plain "java/lang/Object" none with
  accessFlags := 33
  interfaces := #[]
  cf := some (fileOf pool0 8 #[] #[{ accessFlags := 1, nameIndex := 5, descriptorIndex := 6, attributes := #[] }] 33 0 #[] #[])
  fields := #[]
  methods := #[k0m0]
  instanceTypes := #[]
  staticTypes := #[]
  resolved := Array.replicate 124 none
  statics := none }

def pool1 : Array CpInfo := pool [(2, .class_ 4), (1, u "java/lang/Object"), (0, u "<init>"), (0, u "()V"), (0, .integer 16777215), (0, .class_ 9), (0, u "com/example/linkbook/linkbook/frames/Frame"), (0, .methodref 8 11), (0, .nameAndType 5 12), (0, u "(Lcom/example/linkbook/linkbook/profile/LinkProfile;[B)V"), (0, .methodref 8 14), (0, .nameAndType 15 16), (0, u "counter"), (0, u "()I"), (0, .class_ 18), (0, u "com/example/linkbook/linkbook/frames/FrameCounterPinLaw"), (2, u "law"), (0, u "(IIII)Z")] 5

def k1m0 : Method := { name := "<init>", desc := "()V", sig := { parameters := [], returnType := none }, accessFlags := 1, code := none }
def k1c1 : Code := { maxStack := 4, maxLocals := 7, code := code, exceptionTable := #[], attributes := #[] }
def k1m1 : Method := { name := "law", desc := "(IIII)Z", sig := { parameters := [.int, .int, .int, .int], returnType := some .boolean }, accessFlags := 9, code := some k1c1 }
/-- com/example/linkbook/linkbook/frames/FrameCounterPinLaw -/
def k1 : Class := { plain "com/example/linkbook/linkbook/frames/FrameCounterPinLaw" (some 0) with
  accessFlags := 49
  interfaces := #[]
  cf := some (fileOf pool1 17 #[] #[{ accessFlags := 1, nameIndex := 5, descriptorIndex := 6, attributes := #[] }, { accessFlags := 9, nameIndex := 21, descriptorIndex := 22, attributes := #[] }] 49 2 #[] #[])
  fields := #[]
  methods := #[k1m0, k1m1]
  instanceTypes := #[]
  staticTypes := #[]
  resolved := Array.replicate 28 none
  statics := none }

def pool2 : Array CpInfo := pool [(1, .methodref 2 3), (0, .class_ 4), (0, .nameAndType 5 6), (0, u "java/lang/Object"), (0, u "<init>"), (0, u "()V"), (0, .fieldref 8 9), (0, .class_ 10), (0, .nameAndType 11 12), (0, u "com/example/linkbook/linkbook/frames/Frame$Quality"), (0, u "GOOD"), (0, u "Lcom/example/linkbook/linkbook/frames/Frame$Quality;"), (0, .fieldref 14 15), (0, .class_ 16), (0, .nameAndType 17 12), (0, u "com/example/linkbook/linkbook/frames/Frame"), (0, u "quality"), (0, .fieldref 14 19), (0, .nameAndType 20 21), (0, u "profile"), (0, u "Lcom/example/linkbook/linkbook/profile/LinkProfile;"), (0, .fieldref 14 23), (0, .nameAndType 24 25), (0, u "data"), (0, u "[B"), (2, u "syncState"), (0, u "Lcom/example/linkbook/linkbook/bitsync/SyncState;"), (2, u "inverted"), (0, u "Z"), (2, u "markerPosition"), (0, u "J"), (2, u "arrival"), (0, u "Ljava/time/Instant;"), (2, u "correctedSymbols"), (0, u "I"), (7, u "()I"), (10, u "NO_PACKET_START"), (2, u "(Lcom/example/linkbook/linkbook/profile/LinkProfile;[B)V"), (13, u "counter")] 8

def k2c0 : Code := { maxStack := 2, maxLocals := 3, code := prog_17_method_1_code, exceptionTable := #[], attributes := #[] }
def k2m0 : Method := { name := "<init>", desc := "(Lcom/example/linkbook/linkbook/profile/LinkProfile;[B)V", sig := { parameters := [(.object "com/example/linkbook/linkbook/profile/LinkProfile"), (.array .byte)], returnType := none }, accessFlags := 0, code := some k2c0 }
def k2c1 : Code := { maxStack := 3, maxLocals := 1, code := prog_17_method_13_code, exceptionTable := #[], attributes := #[] }
def k2m1 : Method := { name := "counter", desc := "()I", sig := { parameters := [], returnType := some .int }, accessFlags := 1, code := some k2c1 }
/-- com/example/linkbook/linkbook/frames/Frame -/
def k2 : Class := { plain "com/example/linkbook/linkbook/frames/Frame" (some 0) with
  accessFlags := 49
  interfaces := #[]
  cf := some (fileOf pool2 14 #[.nestMembers #[8]] #[{ accessFlags := 0, nameIndex := 5, descriptorIndex := 67, attributes := #[] }, { accessFlags := 1, nameIndex := 81, descriptorIndex := 53, attributes := #[] }] 49 2 #[] #[{ accessFlags := 25, nameIndex := 64, descriptorIndex := 45, attributes := #[] }, { accessFlags := 18, nameIndex := 20, descriptorIndex := 21, attributes := #[] }, { accessFlags := 18, nameIndex := 24, descriptorIndex := 25, attributes := #[] }, { accessFlags := 2, nameIndex := 28, descriptorIndex := 29, attributes := #[] }, { accessFlags := 2, nameIndex := 32, descriptorIndex := 33, attributes := #[] }, { accessFlags := 2, nameIndex := 36, descriptorIndex := 37, attributes := #[] }, { accessFlags := 2, nameIndex := 40, descriptorIndex := 41, attributes := #[] }, { accessFlags := 2, nameIndex := 17, descriptorIndex := 12, attributes := #[] }, { accessFlags := 2, nameIndex := 44, descriptorIndex := 45, attributes := #[] }])
  fields := #[{ name := "NO_PACKET_START", type := .int, accessFlags := 25, slot := 0, constantValue := 0 }, { name := "profile", type := (.object "com/example/linkbook/linkbook/profile/LinkProfile"), accessFlags := 18, slot := 0, constantValue := 0 }, { name := "data", type := (.array .byte), accessFlags := 18, slot := 1, constantValue := 0 }, { name := "syncState", type := (.object "com/example/linkbook/linkbook/bitsync/SyncState"), accessFlags := 2, slot := 2, constantValue := 0 }, { name := "inverted", type := .boolean, accessFlags := 2, slot := 3, constantValue := 0 }, { name := "markerPosition", type := .long, accessFlags := 2, slot := 4, constantValue := 0 }, { name := "arrival", type := (.object "java/time/Instant"), accessFlags := 2, slot := 5, constantValue := 0 }, { name := "quality", type := (.object "com/example/linkbook/linkbook/frames/Frame$Quality"), accessFlags := 2, slot := 6, constantValue := 0 }, { name := "correctedSymbols", type := .int, accessFlags := 2, slot := 7, constantValue := 0 }]
  methods := #[k2m0, k2m1]
  instanceTypes := #[(.object "com/example/linkbook/linkbook/profile/LinkProfile"), (.array .byte), (.object "com/example/linkbook/linkbook/bitsync/SyncState"), .boolean, .long, (.object "java/time/Instant"), (.object "com/example/linkbook/linkbook/frames/Frame$Quality"), .int]
  staticTypes := #[.int]
  resolved := Array.replicate 90 none
  statics := none }

def pool3 : Array CpInfo := pool [(1, .class_ 2), (0, u "java/lang/constant/Constable"), (0, .class_ 4), (0, u "java/lang/Object")] 6

/-- java/lang/constant/Constable -/
def k3 : Class := { plain "java/lang/constant/Constable" (some 0) with
  accessFlags := 1537
  interfaces := #[]
  cf := some (fileOf pool3 1 #[] #[] 1537 3 #[] #[])
  fields := #[]
  methods := #[]
  instanceTypes := #[]
  staticTypes := #[]
  resolved := Array.replicate 11 none
  statics := none }

def pool4 : Array CpInfo := pool [(1, .class_ 2), (0, u "java/lang/Comparable"), (0, .class_ 4), (0, u "java/lang/Object")] 7

/-- java/lang/Comparable -/
def k4 : Class := { plain "java/lang/Comparable" (some 0) with
  accessFlags := 1537
  interfaces := #[]
  cf := some (fileOf pool4 1 #[] #[] 1537 3 #[] #[])
  fields := #[]
  methods := #[]
  instanceTypes := #[]
  staticTypes := #[]
  resolved := Array.replicate 12 none
  statics := none }

def pool5 : Array CpInfo := pool [(1, .class_ 2), (0, u "java/io/Serializable"), (0, .class_ 4), (0, u "java/lang/Object")] 2

/-- java/io/Serializable -/
def k5 : Class := { plain "java/io/Serializable" (some 0) with
  accessFlags := 1537
  interfaces := #[]
  cf := some (fileOf pool5 1 #[] #[] 1537 3 #[] #[])
  fields := #[]
  methods := #[]
  instanceTypes := #[]
  staticTypes := #[]
  resolved := Array.replicate 7 none
  statics := none }

def pool6 : Array CpInfo := pool [(2, .class_ 4), (1, u "java/lang/Enum"), (0, u "name"), (0, u "Ljava/lang/String;"), (2, u "ordinal"), (0, u "I"), (1, .class_ 14), (1, u "java/lang/Object"), (4, u "hash"), (86, .class_ 108), (1, u "java/lang/Enum$EnumDesc"), (2, .class_ 112), (0, u "java/lang/constant/Constable"), (0, .class_ 114), (0, u "java/lang/Comparable"), (0, .class_ 116), (0, u "java/io/Serializable")] 87

/-- java/lang/Enum -/
def k6 : Class := { plain "java/lang/Enum" (some 0) with
  accessFlags := 1057
  interfaces := #[3, 4, 5]
  cf := some (fileOf pool6 2 #[.nestMembers #[106]] #[] 1057 12 #[111, 113, 115] #[{ accessFlags := 18, nameIndex := 5, descriptorIndex := 6, attributes := #[] }, { accessFlags := 18, nameIndex := 9, descriptorIndex := 10, attributes := #[] }, { accessFlags := 2, nameIndex := 19, descriptorIndex := 10, attributes := #[] }])
  fields := #[{ name := "name", type := (.object "java/lang/String"), accessFlags := 18, slot := 0, constantValue := 0 }, { name := "ordinal", type := .int, accessFlags := 18, slot := 1, constantValue := 0 }, { name := "hash", type := .int, accessFlags := 2, slot := 2, constantValue := 0 }]
  methods := #[]
  instanceTypes := #[(.object "java/lang/String"), .int, .int]
  staticTypes := #[]
  resolved := Array.replicate 204 none
  statics := none }

def pool7 : Array CpInfo := pool [(1, .class_ 2), (0, u "com/example/linkbook/linkbook/frames/Frame$Quality"), (2, u "GOOD"), (0, u "Lcom/example/linkbook/linkbook/frames/Frame$Quality;"), (2, u "UNCORRECTABLE"), (2, u "CRC_FAILED"), (2, u "WRONG_VERSION"), (2, u "$VALUES"), (0, u "[Lcom/example/linkbook/linkbook/frames/Frame$Quality;"), (6, .class_ 28), (1, u "java/lang/Enum"), (27, .class_ 57), (0, u "com/example/linkbook/linkbook/frames/Frame")] 2

/-- com/example/linkbook/linkbook/frames/Frame$Quality -/
def k7 : Class := { plain "com/example/linkbook/linkbook/frames/Frame$Quality" (some 6) with
  accessFlags := 16433
  interfaces := #[]
  cf := some (fileOf pool7 1 #[.nestHost 56] #[] 16433 26 #[] #[{ accessFlags := 16409, nameIndex := 5, descriptorIndex := 6, attributes := #[] }, { accessFlags := 16409, nameIndex := 9, descriptorIndex := 6, attributes := #[] }, { accessFlags := 16409, nameIndex := 12, descriptorIndex := 6, attributes := #[] }, { accessFlags := 16409, nameIndex := 15, descriptorIndex := 6, attributes := #[] }, { accessFlags := 4122, nameIndex := 18, descriptorIndex := 19, attributes := #[] }])
  fields := #[{ name := "GOOD", type := (.object "com/example/linkbook/linkbook/frames/Frame$Quality"), accessFlags := 16409, slot := 0, constantValue := 0 }, { name := "UNCORRECTABLE", type := (.object "com/example/linkbook/linkbook/frames/Frame$Quality"), accessFlags := 16409, slot := 1, constantValue := 0 }, { name := "CRC_FAILED", type := (.object "com/example/linkbook/linkbook/frames/Frame$Quality"), accessFlags := 16409, slot := 2, constantValue := 0 }, { name := "WRONG_VERSION", type := (.object "com/example/linkbook/linkbook/frames/Frame$Quality"), accessFlags := 16409, slot := 3, constantValue := 0 }, { name := "$VALUES", type := (.array (.object "com/example/linkbook/linkbook/frames/Frame$Quality")), accessFlags := 4122, slot := 4, constantValue := 0 }]
  methods := #[]
  instanceTypes := #[(.object "java/lang/String"), .int, .int]
  staticTypes := #[(.object "com/example/linkbook/linkbook/frames/Frame$Quality"), (.object "com/example/linkbook/linkbook/frames/Frame$Quality"), (.object "com/example/linkbook/linkbook/frames/Frame$Quality"), (.object "com/example/linkbook/linkbook/frames/Frame$Quality"), (.array (.object "com/example/linkbook/linkbook/frames/Frame$Quality"))]
  resolved := Array.replicate 60 none
  statics := some 0 }

def pool8 : Array CpInfo := pool [(1, u "java/lang/Cloneable"), (0, .class_ 1), (0, u "java/lang/Object"), (0, .class_ 3)] 3

/-- java/lang/Cloneable -/
def k8 : Class := { plain "java/lang/Cloneable" (some 0) with
  accessFlags := 1537
  interfaces := #[]
  cf := some (fileOf pool8 2 #[] #[] 1537 4 #[] #[])
  fields := #[]
  methods := #[]
  instanceTypes := #[]
  staticTypes := #[]
  resolved := Array.replicate 8 none
  statics := none }

/-- the primitive byte -/
def k9 : Class := { plain "byte" none with kind := .primitive 'B', accessFlags := 0x411 }
/-- [B -/
def k10 : Class := { plain "[B" (some 0) with kind := .array 9 .byte, interfaces := #[8, 5], accessFlags := 1041 }

/-- the primitive int -/
def k11 : Class := { plain "int" none with kind := .primitive 'I', accessFlags := 0x411 }
/-- [I -/
def k12 : Class := { plain "[I" (some 0) with kind := .array 11 .int, interfaces := #[8, 5], accessFlags := 1041 }

def heap : Heap := #[{ cls := 7, slots := #[.ref 1, .null, .null, .null, .null], vm := .statics 7 },
  { cls := 7, slots := #[.null, .int 0, .int 0], vm := .none }]
def classes : Array Class := #[k0, k1, k2, k3, k4, k5, k6, k7, k8, k9, k10, k11, k12]
def interned : List (Array UInt16 × Addr) := []
def slotsUsed : Nat := 8
def theMethod : MethodId := ⟨1, 1⟩
def args0 : Array Value := #[.int 5, .int 2, .int 97, .int 7]
def aboutOver (below : List Frame) : State where
  vm := { classes := classes, interned := interned.toArray }
  heap := heap
  slotsUsed := slotsUsed
  threads := #[{ frames := .invoking theMethod args0 :: below }]
def below0 : List Frame := [.native { method := ⟨0, 0⟩, args := #[] }]
def about1 : State := aboutOver below0
def p0 : Program := .bare "" "" ""
def e0 : Env := launch0.env 0 0 0
theorem w_frames : about1.frames = Frame.invoking theMethod args0 :: below0 := rfl
set_option maxRecDepth 65536 in
theorem w_args : argsFit about1.vm theMethod args0 = true := by decide +kernel
set_option maxRecDepth 65536 in
theorem w_heap : heapFits about1 = true := by decide +kernel
set_option maxRecDepth 65536 in
theorem w_runnable : about1.curStatus? = some .runnable := by decide +kernel
set_option maxRecDepth 65536 in
theorem w_alone : about1.alone = true := by decide +kernel
set_option maxRecDepth 65536 in
theorem w_named : about1.methodNamed? x = some theMethod := by decide +kernel
set_option maxRecDepth 65536 in
theorem w_hears : about1.hears theMethod below0 = true := by decide +kernel
set_option maxRecDepth 65536 in
theorem w_ripe : about1.ripe theMethod args0 below0 = true := by decide +kernel
theorem w_running : about1.status = .running := rfl
set_option maxRecDepth 65536 in
theorem w_room : about1.hasRoom e0.platform room_1 = true :=
  launch0.hasRoom_least _ room_1 (by decide +kernel) (by decide +kernel) (by decide +kernel) (by decide +kernel) (by decide +kernel) (by decide +kernel)
theorem allAtoms_all (ts : List Jvm.Cond) (a : Array Jvm.Value) (st : Jvm.State) : (allAtoms ts).before a st = ts.all (fun c => c.before a st) := by
  induction ts with
  | nil => rfl
  | cons c t ih =>
    show (Jvm.Cond.and c (allAtoms t)).before a st = _
    rw [Jvm.Cond.before_and, ih, List.all_cons]
def words1 : List Jvm.Cond := Jvm.Cond.code x code maxLocals ret :: tables_1
/-- a 'code' word, met by the world's own term for the bytes: nothing is compared byte by byte -/
theorem code_word {y : MethodName} {bytes : ByteArray} {mx : Nat} {rt : Option FieldType} {a : Array Value} {s : State} {m : MethodId} {meth : Method} {c : Code} (h1 : s.methodNamed? y = some m) (h2 : s.vm.method? m = some meth) (h3 : meth.code = some c) (h4 : c.code = bytes)
    (h5 : (c.maxLocals == mx && c.exceptionTable.isEmpty && decide (c.maxStack ≤ mostOperands) && decide (meth.sig.returnType = rt) && !meth.locks && decide (parseMethodDescriptor y.desc = some meth.sig)) = true) : (Jvm.Cond.code y bytes mx rt).before a s = true := by
  simp only [Bool.and_eq_true, beq_iff_eq, Bool.not_eq_true', decide_eq_true_eq] at h5
  obtain ⟨⟨⟨⟨⟨g1, g2⟩, g3⟩, g4⟩, g5⟩, g6⟩ := h5
  simp [Cond.before, Cond.holds, Cond.value, h1, h2, h3, h4, g1, g2, g3, g4, g5, g6]
def isCode : Jvm.Cond → Bool
  | .code _ _ _ _ => true
  | _ => false
theorem all_split {L : List Jvm.Cond} {P : Jvm.Cond → Bool} (h1 : L.all (fun c => isCode c || P c) = true) (h2 : ∀ c ∈ L.filter isCode, P c = true) : L.all P = true := by
  refine List.all_eq_true.mpr fun c hc => ?_
  have h := List.all_eq_true.mp h1 c hc
  rcases Bool.eq_false_or_eq_true (isCode c) with hi | hi
  · exact h2 c (List.mem_filter.mpr ⟨hc, hi⟩)
  · simpa [hi] using h
set_option maxRecDepth 65536 in
theorem w_c0 : (Jvm.Cond.code x code maxLocals ret).before args0 about1 = true := code_word (m := ⟨1, 1⟩) (meth := k1m1) (c := k1c1) (by decide +kernel) rfl rfl rfl (by decide +kernel)
set_option maxRecDepth 65536 in
theorem w_c1 : (Jvm.Cond.code ({ cls := "com/example/linkbook/linkbook/frames/Frame", name := "<init>", desc := "(Lcom/example/linkbook/linkbook/profile/LinkProfile;[B)V" } : Jvm.MethodName) prog_17_method_1_code (3 : Nat) (Option.none : Option Jvm.ClassFile.FieldType)).before args0 about1 = true := code_word (m := ⟨2, 0⟩) (meth := k2m0) (c := k2c0) (by decide +kernel) rfl rfl rfl (by decide +kernel)
set_option maxRecDepth 65536 in
theorem w_c2 : (Jvm.Cond.code ({ cls := "java/lang/Object", name := "<init>", desc := "()V" } : Jvm.MethodName) object_method_1_code (1 : Nat) (Option.none : Option Jvm.ClassFile.FieldType)).before args0 about1 = true := code_word (m := ⟨0, 0⟩) (meth := k0m0) (c := k0c0) (by decide +kernel) rfl rfl rfl (by decide +kernel)
set_option maxRecDepth 65536 in
theorem w_c3 : (Jvm.Cond.code ({ cls := "com/example/linkbook/linkbook/frames/Frame", name := "counter", desc := "()I" } : Jvm.MethodName) prog_17_method_13_code (1 : Nat) (Option.some Jvm.ClassFile.FieldType.int)).before args0 about1 = true := code_word (m := ⟨2, 1⟩) (meth := k2m1) (c := k2c1) (by decide +kernel) rfl rfl rfl (by decide +kernel)
def codes1 : List Jvm.Cond := [Jvm.Cond.code x code maxLocals ret, Jvm.Cond.code ({ cls := "com/example/linkbook/linkbook/frames/Frame", name := "<init>", desc := "(Lcom/example/linkbook/linkbook/profile/LinkProfile;[B)V" } : Jvm.MethodName) prog_17_method_1_code (3 : Nat) (Option.none : Option Jvm.ClassFile.FieldType), Jvm.Cond.code ({ cls := "java/lang/Object", name := "<init>", desc := "()V" } : Jvm.MethodName) object_method_1_code (1 : Nat) (Option.none : Option Jvm.ClassFile.FieldType), Jvm.Cond.code ({ cls := "com/example/linkbook/linkbook/frames/Frame", name := "counter", desc := "()I" } : Jvm.MethodName) prog_17_method_13_code (1 : Nat) (Option.some Jvm.ClassFile.FieldType.int)]
set_option maxRecDepth 65536 in
theorem codes_eq : words1.filter isCode = codes1 := rfl
theorem w_codes : ∀ c ∈ words1.filter isCode, c.before args0 about1 = true := by
  rw [codes_eq]
  intro c hc
  simp only [codes1, List.mem_cons, List.not_mem_nil, or_false] at hc
  rcases hc with rfl | rfl | rfl | rfl
  · exact w_c0
  · exact w_c1
  · exact w_c2
  · exact w_c3
set_option maxRecDepth 65536 in
theorem w_t1 : (words1.take 24).all (fun c => isCode c || c.before args0 about1) = true := by decide +kernel
set_option maxRecDepth 65536 in
theorem w_t2 : (words1.drop 24).all (fun c => isCode c || c.before args0 about1) = true := by decide +kernel
theorem w_tables : (allAtoms (Jvm.Cond.code x code maxLocals ret :: tables_1)).before args0 about1 = true := by
  rw [allAtoms_all]
  show words1.all (fun c => c.before args0 about1) = true
  refine all_split ?_ w_codes
  rw [← List.take_append_drop 24 words1, List.all_append, w_t1, w_t2]
  rfl
set_option maxRecDepth 65536 in
theorem w_case : (Jvm.Cond.and given_1 narrow_1).before args0 about1 = true := by decide +kernel
theorem w_applies : (headSpec (Jvm.Cond.code x code maxLocals ret :: tables_1) room_1).applies x e0.platform about1 = true :=
  (Spec.applies_iff w_frames).mpr ⟨w_running, w_runnable, w_alone, w_named, w_hears, w_ripe, w_room, w_tables⟩
theorem atStart : AtStart classFile x code maxLocals ret World_1 tables_1 room_1 Calls_1 rest_1 Pre_1 launch0 p0 e0 about1 theMethod args0 below0 :=
  ⟨lists_1, trivial, launch0.admits_env _ _ _, launch0.least_env, fairChoices_fair.cas, fairChoices_fair.clock, w_frames, w_args, w_heap, w_applies, trivial, trivial, w_case⟩
end start1
theorem witness_1 : WitnessClaimed_1 := ⟨start1.p0, start1.e0, start1.about1, start1.theMethod, start1.args0, start1.below0, start1.atStart⟩
end Jvm.Pilot.@@N@@
