import JvmDerived
import JvmDerived.Pilot.@@N@@Statement
import JvmDerived.Pilot.@@N@@Code
set_option linter.unusedVariables false
set_option linter.unusedSimpArgs false
namespace Jvm.RoadKit
open Sem ClassFile Op Lib Jvm.Stand Jvm.Free Jvm.LawKit
section New
variable {p : Program} {l : Launch} {e : Env} {R : Room} {s : State} {m : MethodId} {args : Array Value} {below : List Frame} {meth : Method} {c : Code} {T : State} {locs : List Loc} {cells slots : Nat}
theorem retI (X : Stand p l e R s m args below meth c T locs cells slots) (hx : p.tables.exec = Jvm.exec) {pc : Nat} {Ls : Array Slot} {z : Int32} {rest : List Value} (hret : meth.sig.returnType = some .int) (hd : decode c.code pc = .ok (.ireturn, 1)) {fs : List Frame}
    (hl : ∀ (f : JFrame) (acts : List Action), f.method = m → f.locked = none → f.entered = [] → (doReturn e (T.setTop f) acts (some (.int z))).1 = T.setFrames fs) : Steps p.tables e below (T.setTop (mkF m pc Ls (.int z :: rest))) (T.setFrames fs) := by
  have hm' : T.vm.method? m = some meth := X.method'
  have hn : narrow .int (.int z) = .int z := rfl
  show Steps p.tables e below (T.setTop { method := m, pc := pc, locals := Ls, stack := _ :: rest, locked := none }) _
  jvm_step X.here [X.here.top, hx, hd, hm', hret, hn]
  first | (intro acts; rw [hl _ acts rfl rfl rfl]) | rw [hl _ _ rfl rfl rfl]
  exact Steps.refl _
end New
end Jvm.RoadKit
namespace Jvm.Pilot.@@N@@
open Jvm Jvm.ClassFile Sem Op Lib Jvm.Free Jvm.Stand Jvm.LawKit Jvm.RoadKit Bundle Jvm.Pilot.@@N@@.Jvm.D
theorem own_fldS {args : Array Value} {s : State} {t : Term} {a : Addr} {O n d : String} {k : Int32} (ev : t.eval args s none [] s = some (.ref a)) (h : (Cond.eq (Term.field t O n d) (Term.int k)).value args s none s [] = some true) : Fld s s.heap a O n d (.int k) := by
  obtain ⟨x, y, e1, e2, k1, k2⟩ := cmp_v (Or.inl h)
  have e3 : y = .int k := Option.some.inj (e2.symm.trans (Term.int_eval k))
  subst e3
  obtain ⟨z, rfl⟩ : ∃ z, x = .int z := by cases x <;> simp [Kin] at k1 k2 ⊢
  have e4 : (Cond.eq (Term.field t O n d) (Term.int k)).value args s none s [] = some (decide (z = k)) := by simp [Cond.value, e1, e2]
  obtain rfl := gotT e4 h
  exact Fld.start (by rw [← fld_at ev]; exact e1)
theorem own_mir {Z s : State} {C : String} {mr : Addr} {cB : ClassId} {kB : Class} (hZ : Z.Warmed39 s.vm) (M : Mir Z C mr) (qa : s.vm.findClass C = some cB) (qb : s.vm.classes[cB]? = some kB) : kB.mirror = some mr := by
  obtain ⟨c, k, h1, h2, h3, -⟩ := M
  rw [hZ.alike.findClass] at qa
  cases h1.symm.trans qa
  obtain ⟨k', q1, q2⟩ := hZ.alike.2.2 _ _ h2
  cases qb.symm.trans q1
  rw [q2]; exact h3
theorem own_d1_0 : decode method_2_code 0 = .ok (.iload_n 0, 1) := by decide +kernel
theorem own_d1_1 : decode method_2_code 1 = .ok (.ifCond .ne 7, 3) := by decide +kernel
theorem own_d1_4 : decode method_2_code 4 = .ok (.getstatic 7, 3) := by decide +kernel
theorem own_d1_7 : decode method_2_code 7 = .ok (.areturn, 1) := by decide +kernel
theorem own_d1_8 : decode method_2_code 8 = .ok (.iload_n 0, 1) := by decide +kernel
theorem own_d1_9 : decode method_2_code 9 = .ok (.iconst 1, 1) := by decide +kernel
theorem own_d1_10 : decode method_2_code 10 = .ok (.if_icmp .ne 7, 3) := by decide +kernel
theorem own_d1_13 : decode method_2_code 13 = .ok (.getstatic 13, 3) := by decide +kernel
theorem own_d1_16 : decode method_2_code 16 = .ok (.areturn, 1) := by decide +kernel
theorem own_d1_17 : decode method_2_code 17 = .ok (.iload_n 0, 1) := by decide +kernel
theorem own_d1_18 : decode method_2_code 18 = .ok (.iconst 2, 1) := by decide +kernel
theorem own_d1_19 : decode method_2_code 19 = .ok (.if_icmp .ne 7, 3) := by decide +kernel
theorem own_d1_22 : decode method_2_code 22 = .ok (.getstatic 16, 3) := by decide +kernel
theorem own_d1_25 : decode method_2_code 25 = .ok (.areturn, 1) := by decide +kernel
theorem own_d1_26 : decode method_2_code 26 = .ok (.iload_n 0, 1) := by decide +kernel
theorem own_d1_27 : decode method_2_code 27 = .ok (.iconst 3, 1) := by decide +kernel
theorem own_d1_28 : decode method_2_code 28 = .ok (.if_icmp .ne 7, 3) := by decide +kernel
theorem own_d1_31 : decode method_2_code 31 = .ok (.getstatic 19, 3) := by decide +kernel
theorem own_d1_34 : decode method_2_code 34 = .ok (.areturn, 1) := by decide +kernel
theorem own_d1_35 : decode method_2_code 35 = .ok (.iload_n 0, 1) := by decide +kernel
theorem own_d1_36 : decode method_2_code 36 = .ok (.iconst 4, 1) := by decide +kernel
theorem own_d1_37 : decode method_2_code 37 = .ok (.if_icmp .ne 7, 3) := by decide +kernel
theorem own_d1_40 : decode method_2_code 40 = .ok (.getstatic 22, 3) := by decide +kernel
theorem own_d1_43 : decode method_2_code 43 = .ok (.areturn, 1) := by decide +kernel
theorem own_d1_44 : decode method_2_code 44 = .ok (.iload_n 0, 1) := by decide +kernel
theorem own_d1_45 : decode method_2_code 45 = .ok (.iconst 5, 1) := by decide +kernel
theorem own_d1_46 : decode method_2_code 46 = .ok (.if_icmp .ne 7, 3) := by decide +kernel
theorem own_d1_49 : decode method_2_code 49 = .ok (.getstatic 25, 3) := by decide +kernel
theorem own_d1_52 : decode method_2_code 52 = .ok (.areturn, 1) := by decide +kernel
theorem own_d1_53 : decode method_2_code 53 = .ok (.iload_n 0, 1) := by decide +kernel
theorem own_d1_54 : decode method_2_code 54 = .ok (.bipush 6, 2) := by decide +kernel
theorem own_d1_56 : decode method_2_code 56 = .ok (.if_icmp .ne 7, 3) := by decide +kernel
theorem own_d1_59 : decode method_2_code 59 = .ok (.getstatic 28, 3) := by decide +kernel
theorem own_d1_62 : decode method_2_code 62 = .ok (.areturn, 1) := by decide +kernel
theorem own_d1_63 : decode method_2_code 63 = .ok (.iload_n 0, 1) := by decide +kernel
theorem own_d1_64 : decode method_2_code 64 = .ok (.bipush 7, 2) := by decide +kernel
theorem own_d1_66 : decode method_2_code 66 = .ok (.if_icmp .ne 7, 3) := by decide +kernel
theorem own_d1_69 : decode method_2_code 69 = .ok (.getstatic 31, 3) := by decide +kernel
theorem own_d1_72 : decode method_2_code 72 = .ok (.areturn, 1) := by decide +kernel
theorem own_d1_73 : decode method_2_code 73 = .ok (.getstatic 34, 3) := by decide +kernel
theorem own_d1_76 : decode method_2_code 76 = .ok (.areturn, 1) := by decide +kernel
theorem own_pn0 : plainName "com/example/alterlint/alterlint/model/LockModeBlocksReadsPinLaw" = true := by first | (simp [plainName, overriddenIn]; done) | decide +kernel
theorem own_ef_rmM (m : MethodId) (p1 : Int32) : entryFrame m #[(.int p1)] 1 = mkF m 0 #[.val (.int p1)] [] := by first | (simp [entryFrame, mkF, argsToLocals, Value.category]; done) | rfl
def QM (Z : State) (p1 : Int32) (o0 : Addr) (o1 : Addr) (o2 : Addr) (o3 : Addr) (o4 : Addr) (o5 : Addr) (o6 : Addr) (o7 : Addr) (o8 : Addr) (h0 : Heap) (n0 : Nat) (v : Option Value) (h : Heap) (L : List Loc) : Prop := ∃ r : Addr, v = some (.ref r) ∧ Fr n0 L ∧ h = h0 ∧ Exa Z h0 r "com/example/alterlint/alterlint/model/LockMode" ∧ Fld Z h0 r "java/lang/Enum" "ordinal" "I" (.int p1) ∧ (r = o8 ↔ p1 = (8 : Int32))
set_option maxRecDepth 65536 in
set_option maxHeartbeats 40000000 in
theorem rmM (l : Launch) (Z : State) (a0 : Array Value) (hw : ∀ d ∈ tables_1, d.before a0 Z = true) (ws : List Jvm.Cond) (p1 : Int32) (o0 : Addr) (o1 : Addr) (o2 : Addr) (o3 : Addr) (o4 : Addr) (o5 : Addr) (o6 : Addr) (o7 : Addr) (o8 : Addr) (h0 : Heap) (n0 : Nat) (Z0 : n0 ≤ h0.size) (S_NONE : Sta Z h0 "com/example/alterlint/alterlint/model/LockMode" "NONE" "Lcom/example/alterlint/alterlint/model/LockMode;" (.ref o0)) (E_o0 : Exa Z h0 o0 "com/example/alterlint/alterlint/model/LockMode") (F_o0_ordinal : Fld Z h0 o0 "java/lang/Enum" "ordinal" "I" (.int (0 : Int32))) (S_ACCESS_SHARE : Sta Z h0 "com/example/alterlint/alterlint/model/LockMode" "ACCESS_SHARE" "Lcom/example/alterlint/alterlint/model/LockMode;" (.ref o1)) (E_o1 : Exa Z h0 o1 "com/example/alterlint/alterlint/model/LockMode") (F_o1_ordinal : Fld Z h0 o1 "java/lang/Enum" "ordinal" "I" (.int (1 : Int32))) (S_ROW_SHARE : Sta Z h0 "com/example/alterlint/alterlint/model/LockMode" "ROW_SHARE" "Lcom/example/alterlint/alterlint/model/LockMode;" (.ref o2)) (E_o2 : Exa Z h0 o2 "com/example/alterlint/alterlint/model/LockMode") (F_o2_ordinal : Fld Z h0 o2 "java/lang/Enum" "ordinal" "I" (.int (2 : Int32))) (S_ROW_EXCLUSIVE : Sta Z h0 "com/example/alterlint/alterlint/model/LockMode" "ROW_EXCLUSIVE" "Lcom/example/alterlint/alterlint/model/LockMode;" (.ref o3)) (E_o3 : Exa Z h0 o3 "com/example/alterlint/alterlint/model/LockMode") (F_o3_ordinal : Fld Z h0 o3 "java/lang/Enum" "ordinal" "I" (.int (3 : Int32))) (S_SHARE_UPDATE_EXCLUSIVE : Sta Z h0 "com/example/alterlint/alterlint/model/LockMode" "SHARE_UPDATE_EXCLUSIVE" "Lcom/example/alterlint/alterlint/model/LockMode;" (.ref o4)) (E_o4 : Exa Z h0 o4 "com/example/alterlint/alterlint/model/LockMode") (F_o4_ordinal : Fld Z h0 o4 "java/lang/Enum" "ordinal" "I" (.int (4 : Int32))) (S_SHARE : Sta Z h0 "com/example/alterlint/alterlint/model/LockMode" "SHARE" "Lcom/example/alterlint/alterlint/model/LockMode;" (.ref o5)) (E_o5 : Exa Z h0 o5 "com/example/alterlint/alterlint/model/LockMode") (F_o5_ordinal : Fld Z h0 o5 "java/lang/Enum" "ordinal" "I" (.int (5 : Int32))) (S_SHARE_ROW_EXCLUSIVE : Sta Z h0 "com/example/alterlint/alterlint/model/LockMode" "SHARE_ROW_EXCLUSIVE" "Lcom/example/alterlint/alterlint/model/LockMode;" (.ref o6)) (E_o6 : Exa Z h0 o6 "com/example/alterlint/alterlint/model/LockMode") (F_o6_ordinal : Fld Z h0 o6 "java/lang/Enum" "ordinal" "I" (.int (6 : Int32))) (S_EXCLUSIVE : Sta Z h0 "com/example/alterlint/alterlint/model/LockMode" "EXCLUSIVE" "Lcom/example/alterlint/alterlint/model/LockMode;" (.ref o7)) (E_o7 : Exa Z h0 o7 "com/example/alterlint/alterlint/model/LockMode") (F_o7_ordinal : Fld Z h0 o7 "java/lang/Enum" "ordinal" "I" (.int (7 : Int32))) (S_ACCESS_EXCLUSIVE : Sta Z h0 "com/example/alterlint/alterlint/model/LockMode" "ACCESS_EXCLUSIVE" "Lcom/example/alterlint/alterlint/model/LockMode;" (.ref o8)) (E_o8 : Exa Z h0 o8 "com/example/alterlint/alterlint/model/LockMode") (F_o8_ordinal : Fld Z h0 o8 "java/lang/Enum" "ordinal" "I" (.int (8 : Int32))) (ne_o0_o8 : o0 ≠ o8) (ne_o1_o8 : o1 ≠ o8) (ne_o2_o8 : o2 ≠ o8) (ne_o3_o8 : o3 ≠ o8) (ne_o4_o8 : o4 ≠ o8) (ne_o5_o8 : o5 ≠ o8) (ne_o6_o8 : o6 ≠ o8) (ne_o7_o8 : o7 ≠ o8) (hrg : p1 = (0 : Int32) ∨ p1 = (1 : Int32) ∨ p1 = (2 : Int32) ∨ p1 = (3 : Int32) ∨ p1 = (4 : Int32) ∨ p1 = (5 : Int32) ∨ p1 = (6 : Int32) ∨ p1 = (7 : Int32) ∨ p1 = (8 : Int32)) :
    MetFree l (⟨"com/example/alterlint/alterlint/model/LockModeBlocksReadsPinLaw", "mode", "(I)Lcom/example/alterlint/alterlint/model/LockMode;"⟩ : MethodName) (head1 (Jvm.Cond.code (⟨"com/example/alterlint/alterlint/model/LockModeBlocksReadsPinLaw", "mode", "(I)Lcom/example/alterlint/alterlint/model/LockMode;"⟩ : MethodName) method_2_code 1 (some (.object "com/example/alterlint/alterlint/model/LockMode")) :: ws) ({ frames := 0, cells := 0, slots := 0, locals := 0 } : Room)) (fun a U => a = #[(.int p1)] ∧ Z.Warmed39 U.vm ∧ U.heap = h0) (fun _ _ _ _ _ => True) (fun _ U o U' => ∃ v L, o = .returned v ∧ QM Z p1 o0 o1 o2 o3 o4 o5 o6 o7 o8 h0 n0 v U'.heap L ∧ FrameEnd U o U' L ({ frames := 0, cells := 0, slots := 0, locals := 0 } : Room).cells ({ frames := 0, cells := 0, slots := 0, locals := 0 } : Room).slots) := by
  refine MetFree.of_bodySF (plainFor_of_name own_pn0) hisR ?_
  intro p e s m args below meth c s₁ Bd hml0 hP hK
  obtain ⟨rfl, hZ, hh⟩ := hP
  have hx := Bd.exec
  have hby := Bd.bytes
  have hml : c.maxLocals = 1 := hml0
  have hown : s.vm.findClass "com/example/alterlint/alterlint/model/LockModeBlocksReadsPinLaw" = some m.cls := findClass_of_methodNamed Bd.named
  have hnm := (name_of_methodNamed Bd.named Bd.method).1
  have X0 : Stand p l e ({ frames := 0, cells := 0, slots := 0, locals := 0 } : Room) s m #[(.int p1)] below meth c s₁ [] 0 0 := Stand.of_body Bd
  have e0 : s₁.heap = h0 := by rw [← hh, Bd.state]; rfl
  have N0 := Fr.nil n0
  have K0 : Keep h0 h0 [] := Keep.refl h0 _
  have pre0 : ∀ t, Steps p.tables e below (s₁.setTop (mkF m 0 #[.val (.int p1)] [])) t → Steps p.tables e below (s₁.setTop (entryFrame m #[(.int p1)] 1)) t := fun t k => castTop (own_ef_rmM m p1) k
  have pre1 : ∀ t, Steps p.tables e below (s₁.setTop (mkF m 1 #[.val (.int p1)] [(.int p1)])) t → Steps p.tables e below (s₁.setTop (entryFrame m #[(.int p1)] 1)) t := fun t k => by
    refine pre0 _ ?_
    show Steps p.tables e below (s₁.setTop (mkF m 0 #[.val (.int p1)] [])) _
    refine XS.iloadN X0.here hx rfl (hb hby own_d1_0) rfl ?_
    exact k
  by_cases hc1 : p1 = (0 : Int32)
  · obtain ⟨T2, X2, e2, st2⟩ := getS2 X0 hx hZ hown (host := "") (Or.inl (hw _ (List.mem_of_getElem? (i := 5) rfl))) Via.refl e0 S_NONE (g := (mkF m 4 #[.val (.int p1)] [])) rfl (hb hby own_d1_4)
    obtain ⟨fs, hr, hrun, hended, hW, hsame⟩ := X2.leave (v := some (.ref o0)) (fun h => by rw [Bd.returns] at h; cases h)
    refine ⟨_, _, pre1 _ ?_, hrun, hended, _, _, rfl, ?_, ⟨_, rfl⟩, hW, hsame.mono (by decide) (by decide)⟩
    · show Steps p.tables e below (s₁.setTop (mkF m 1 #[.val (.int p1)] [(.int p1)])) _
      refine XS.ifNo X0.here hx rfl (hb hby own_d1_1) rfl ((if0 _ _).trans (teq hc1).2) ?_
      show Steps p.tables e below (s₁.setTop (mkF m 4 #[.val (.int p1)] [])) _
      refine st2 _ ?_
      show Steps p.tables e below (T2.setTop (mkF m 7 #[.val (.int p1)] [(.ref o0)])) _
      jvm_step X2.here [X2.here.top, hx, (hb hby own_d1_7), X2.method', Bd.returns, Value.isRef, FieldType.isReference]
      first | (intro acts; rw [hr _ acts rfl rfl rfl]) | rw [hr _ _ rfl rfl rfl]
      exact Steps.refl _
    · show QM Z p1 o0 o1 o2 o3 o4 o5 o6 o7 o8 h0 n0 _ T2.heap _
      rw [e2]
      exact ⟨o0, rfl, N0, rfl, E_o0, (by rw [hc1]; exact F_o0_ordinal), ⟨fun q => absurd q ne_o0_o8, fun q => absurd (hc1.symm.trans q) (by decide)⟩⟩
  · have pre3 : ∀ t, Steps p.tables e below (s₁.setTop (mkF m 10 #[.val (.int p1)] [(.int (1 : Int32)), (.int p1)])) t → Steps p.tables e below (s₁.setTop (entryFrame m #[(.int p1)] 1)) t := fun t k => by
      refine pre1 _ ?_
      show Steps p.tables e below (s₁.setTop (mkF m 1 #[.val (.int p1)] [(.int p1)])) _
      refine XS.ifYes X0.here hx rfl (pc0 := 1) (pc' := 8) rfl (hb hby own_d1_1) rfl ((if0 _ _).trans (feq hc1).2) (by decide) (by decide) ?_
      show Steps p.tables e below (s₁.setTop (mkF m 8 #[.val (.int p1)] [])) _
      refine XS.iloadN X0.here hx rfl (hb hby own_d1_8) rfl ?_
      show Steps p.tables e below (s₁.setTop (mkF m 9 #[.val (.int p1)] [(.int p1)])) _
      refine XS.iconst X0.here hx rfl (hb hby own_d1_9) ?_
      exact k
    by_cases hc10 : p1 = (1 : Int32)
    · obtain ⟨T4, X4, e4, st4⟩ := getS2 X0 hx hZ hown (host := "") (Or.inl (hw _ (List.mem_of_getElem? (i := 42) rfl))) Via.refl e0 S_ACCESS_SHARE (g := (mkF m 13 #[.val (.int p1)] [])) rfl (hb hby own_d1_13)
      obtain ⟨fs, hr, hrun, hended, hW, hsame⟩ := X4.leave (v := some (.ref o1)) (fun h => by rw [Bd.returns] at h; cases h)
      refine ⟨_, _, pre3 _ ?_, hrun, hended, _, _, rfl, ?_, ⟨_, rfl⟩, hW, hsame.mono (by decide) (by decide)⟩
      · show Steps p.tables e below (s₁.setTop (mkF m 10 #[.val (.int p1)] [(.int (1 : Int32)), (.int p1)])) _
        refine XS.icmpNo X0.here hx rfl (hb hby own_d1_10) rfl (teq hc10).2 ?_
        show Steps p.tables e below (s₁.setTop (mkF m 13 #[.val (.int p1)] [])) _
        refine st4 _ ?_
        show Steps p.tables e below (T4.setTop (mkF m 16 #[.val (.int p1)] [(.ref o1)])) _
        jvm_step X4.here [X4.here.top, hx, (hb hby own_d1_16), X4.method', Bd.returns, Value.isRef, FieldType.isReference]
        first | (intro acts; rw [hr _ acts rfl rfl rfl]) | rw [hr _ _ rfl rfl rfl]
        exact Steps.refl _
      · show QM Z p1 o0 o1 o2 o3 o4 o5 o6 o7 o8 h0 n0 _ T4.heap _
        rw [e4]
        exact ⟨o1, rfl, N0, rfl, E_o1, (by rw [hc10]; exact F_o1_ordinal), ⟨fun q => absurd q ne_o1_o8, fun q => absurd (hc10.symm.trans q) (by decide)⟩⟩
    · have pre5 : ∀ t, Steps p.tables e below (s₁.setTop (mkF m 19 #[.val (.int p1)] [(.int (2 : Int32)), (.int p1)])) t → Steps p.tables e below (s₁.setTop (entryFrame m #[(.int p1)] 1)) t := fun t k => by
        refine pre3 _ ?_
        show Steps p.tables e below (s₁.setTop (mkF m 10 #[.val (.int p1)] [(.int (1 : Int32)), (.int p1)])) _
        refine XS.icmpYes X0.here hx rfl (pc0 := 10) (pc' := 17) rfl (hb hby own_d1_10) rfl (feq hc10).2 (by decide) (by decide) ?_
        show Steps p.tables e below (s₁.setTop (mkF m 17 #[.val (.int p1)] [])) _
        refine XS.iloadN X0.here hx rfl (hb hby own_d1_17) rfl ?_
        show Steps p.tables e below (s₁.setTop (mkF m 18 #[.val (.int p1)] [(.int p1)])) _
        refine XS.iconst X0.here hx rfl (hb hby own_d1_18) ?_
        exact k
      by_cases hc19 : p1 = (2 : Int32)
      · obtain ⟨T6, X6, e6, st6⟩ := getS2 X0 hx hZ hown (host := "") (Or.inl (hw _ (List.mem_of_getElem? (i := 44) rfl))) Via.refl e0 S_ROW_SHARE (g := (mkF m 22 #[.val (.int p1)] [])) rfl (hb hby own_d1_22)
        obtain ⟨fs, hr, hrun, hended, hW, hsame⟩ := X6.leave (v := some (.ref o2)) (fun h => by rw [Bd.returns] at h; cases h)
        refine ⟨_, _, pre5 _ ?_, hrun, hended, _, _, rfl, ?_, ⟨_, rfl⟩, hW, hsame.mono (by decide) (by decide)⟩
        · show Steps p.tables e below (s₁.setTop (mkF m 19 #[.val (.int p1)] [(.int (2 : Int32)), (.int p1)])) _
          refine XS.icmpNo X0.here hx rfl (hb hby own_d1_19) rfl (teq hc19).2 ?_
          show Steps p.tables e below (s₁.setTop (mkF m 22 #[.val (.int p1)] [])) _
          refine st6 _ ?_
          show Steps p.tables e below (T6.setTop (mkF m 25 #[.val (.int p1)] [(.ref o2)])) _
          jvm_step X6.here [X6.here.top, hx, (hb hby own_d1_25), X6.method', Bd.returns, Value.isRef, FieldType.isReference]
          first | (intro acts; rw [hr _ acts rfl rfl rfl]) | rw [hr _ _ rfl rfl rfl]
          exact Steps.refl _
        · show QM Z p1 o0 o1 o2 o3 o4 o5 o6 o7 o8 h0 n0 _ T6.heap _
          rw [e6]
          exact ⟨o2, rfl, N0, rfl, E_o2, (by rw [hc19]; exact F_o2_ordinal), ⟨fun q => absurd q ne_o2_o8, fun q => absurd (hc19.symm.trans q) (by decide)⟩⟩
      · have pre7 : ∀ t, Steps p.tables e below (s₁.setTop (mkF m 28 #[.val (.int p1)] [(.int (3 : Int32)), (.int p1)])) t → Steps p.tables e below (s₁.setTop (entryFrame m #[(.int p1)] 1)) t := fun t k => by
          refine pre5 _ ?_
          show Steps p.tables e below (s₁.setTop (mkF m 19 #[.val (.int p1)] [(.int (2 : Int32)), (.int p1)])) _
          refine XS.icmpYes X0.here hx rfl (pc0 := 19) (pc' := 26) rfl (hb hby own_d1_19) rfl (feq hc19).2 (by decide) (by decide) ?_
          show Steps p.tables e below (s₁.setTop (mkF m 26 #[.val (.int p1)] [])) _
          refine XS.iloadN X0.here hx rfl (hb hby own_d1_26) rfl ?_
          show Steps p.tables e below (s₁.setTop (mkF m 27 #[.val (.int p1)] [(.int p1)])) _
          refine XS.iconst X0.here hx rfl (hb hby own_d1_27) ?_
          exact k
        by_cases hc28 : p1 = (3 : Int32)
        · obtain ⟨T8, X8, e8, st8⟩ := getS2 X0 hx hZ hown (host := "") (Or.inl (hw _ (List.mem_of_getElem? (i := 8) rfl))) Via.refl e0 S_ROW_EXCLUSIVE (g := (mkF m 31 #[.val (.int p1)] [])) rfl (hb hby own_d1_31)
          obtain ⟨fs, hr, hrun, hended, hW, hsame⟩ := X8.leave (v := some (.ref o3)) (fun h => by rw [Bd.returns] at h; cases h)
          refine ⟨_, _, pre7 _ ?_, hrun, hended, _, _, rfl, ?_, ⟨_, rfl⟩, hW, hsame.mono (by decide) (by decide)⟩
          · show Steps p.tables e below (s₁.setTop (mkF m 28 #[.val (.int p1)] [(.int (3 : Int32)), (.int p1)])) _
            refine XS.icmpNo X0.here hx rfl (hb hby own_d1_28) rfl (teq hc28).2 ?_
            show Steps p.tables e below (s₁.setTop (mkF m 31 #[.val (.int p1)] [])) _
            refine st8 _ ?_
            show Steps p.tables e below (T8.setTop (mkF m 34 #[.val (.int p1)] [(.ref o3)])) _
            jvm_step X8.here [X8.here.top, hx, (hb hby own_d1_34), X8.method', Bd.returns, Value.isRef, FieldType.isReference]
            first | (intro acts; rw [hr _ acts rfl rfl rfl]) | rw [hr _ _ rfl rfl rfl]
            exact Steps.refl _
          · show QM Z p1 o0 o1 o2 o3 o4 o5 o6 o7 o8 h0 n0 _ T8.heap _
            rw [e8]
            exact ⟨o3, rfl, N0, rfl, E_o3, (by rw [hc28]; exact F_o3_ordinal), ⟨fun q => absurd q ne_o3_o8, fun q => absurd (hc28.symm.trans q) (by decide)⟩⟩
        · have pre9 : ∀ t, Steps p.tables e below (s₁.setTop (mkF m 37 #[.val (.int p1)] [(.int (4 : Int32)), (.int p1)])) t → Steps p.tables e below (s₁.setTop (entryFrame m #[(.int p1)] 1)) t := fun t k => by
            refine pre7 _ ?_
            show Steps p.tables e below (s₁.setTop (mkF m 28 #[.val (.int p1)] [(.int (3 : Int32)), (.int p1)])) _
            refine XS.icmpYes X0.here hx rfl (pc0 := 28) (pc' := 35) rfl (hb hby own_d1_28) rfl (feq hc28).2 (by decide) (by decide) ?_
            show Steps p.tables e below (s₁.setTop (mkF m 35 #[.val (.int p1)] [])) _
            refine XS.iloadN X0.here hx rfl (hb hby own_d1_35) rfl ?_
            show Steps p.tables e below (s₁.setTop (mkF m 36 #[.val (.int p1)] [(.int p1)])) _
            refine XS.iconst X0.here hx rfl (hb hby own_d1_36) ?_
            exact k
          by_cases hc37 : p1 = (4 : Int32)
          · obtain ⟨T10, X10, e10, st10⟩ := getS2 X0 hx hZ hown (host := "") (Or.inl (hw _ (List.mem_of_getElem? (i := 46) rfl))) Via.refl e0 S_SHARE_UPDATE_EXCLUSIVE (g := (mkF m 40 #[.val (.int p1)] [])) rfl (hb hby own_d1_40)
            obtain ⟨fs, hr, hrun, hended, hW, hsame⟩ := X10.leave (v := some (.ref o4)) (fun h => by rw [Bd.returns] at h; cases h)
            refine ⟨_, _, pre9 _ ?_, hrun, hended, _, _, rfl, ?_, ⟨_, rfl⟩, hW, hsame.mono (by decide) (by decide)⟩
            · show Steps p.tables e below (s₁.setTop (mkF m 37 #[.val (.int p1)] [(.int (4 : Int32)), (.int p1)])) _
              refine XS.icmpNo X0.here hx rfl (hb hby own_d1_37) rfl (teq hc37).2 ?_
              show Steps p.tables e below (s₁.setTop (mkF m 40 #[.val (.int p1)] [])) _
              refine st10 _ ?_
              show Steps p.tables e below (T10.setTop (mkF m 43 #[.val (.int p1)] [(.ref o4)])) _
              jvm_step X10.here [X10.here.top, hx, (hb hby own_d1_43), X10.method', Bd.returns, Value.isRef, FieldType.isReference]
              first | (intro acts; rw [hr _ acts rfl rfl rfl]) | rw [hr _ _ rfl rfl rfl]
              exact Steps.refl _
            · show QM Z p1 o0 o1 o2 o3 o4 o5 o6 o7 o8 h0 n0 _ T10.heap _
              rw [e10]
              exact ⟨o4, rfl, N0, rfl, E_o4, (by rw [hc37]; exact F_o4_ordinal), ⟨fun q => absurd q ne_o4_o8, fun q => absurd (hc37.symm.trans q) (by decide)⟩⟩
          · have pre11 : ∀ t, Steps p.tables e below (s₁.setTop (mkF m 46 #[.val (.int p1)] [(.int (5 : Int32)), (.int p1)])) t → Steps p.tables e below (s₁.setTop (entryFrame m #[(.int p1)] 1)) t := fun t k => by
              refine pre9 _ ?_
              show Steps p.tables e below (s₁.setTop (mkF m 37 #[.val (.int p1)] [(.int (4 : Int32)), (.int p1)])) _
              refine XS.icmpYes X0.here hx rfl (pc0 := 37) (pc' := 44) rfl (hb hby own_d1_37) rfl (feq hc37).2 (by decide) (by decide) ?_
              show Steps p.tables e below (s₁.setTop (mkF m 44 #[.val (.int p1)] [])) _
              refine XS.iloadN X0.here hx rfl (hb hby own_d1_44) rfl ?_
              show Steps p.tables e below (s₁.setTop (mkF m 45 #[.val (.int p1)] [(.int p1)])) _
              refine XS.iconst X0.here hx rfl (hb hby own_d1_45) ?_
              exact k
            by_cases hc46 : p1 = (5 : Int32)
            · obtain ⟨T12, X12, e12, st12⟩ := getS2 X0 hx hZ hown (host := "") (Or.inl (hw _ (List.mem_of_getElem? (i := 40) rfl))) Via.refl e0 S_SHARE (g := (mkF m 49 #[.val (.int p1)] [])) rfl (hb hby own_d1_49)
              obtain ⟨fs, hr, hrun, hended, hW, hsame⟩ := X12.leave (v := some (.ref o5)) (fun h => by rw [Bd.returns] at h; cases h)
              refine ⟨_, _, pre11 _ ?_, hrun, hended, _, _, rfl, ?_, ⟨_, rfl⟩, hW, hsame.mono (by decide) (by decide)⟩
              · show Steps p.tables e below (s₁.setTop (mkF m 46 #[.val (.int p1)] [(.int (5 : Int32)), (.int p1)])) _
                refine XS.icmpNo X0.here hx rfl (hb hby own_d1_46) rfl (teq hc46).2 ?_
                show Steps p.tables e below (s₁.setTop (mkF m 49 #[.val (.int p1)] [])) _
                refine st12 _ ?_
                show Steps p.tables e below (T12.setTop (mkF m 52 #[.val (.int p1)] [(.ref o5)])) _
                jvm_step X12.here [X12.here.top, hx, (hb hby own_d1_52), X12.method', Bd.returns, Value.isRef, FieldType.isReference]
                first | (intro acts; rw [hr _ acts rfl rfl rfl]) | rw [hr _ _ rfl rfl rfl]
                exact Steps.refl _
              · show QM Z p1 o0 o1 o2 o3 o4 o5 o6 o7 o8 h0 n0 _ T12.heap _
                rw [e12]
                exact ⟨o5, rfl, N0, rfl, E_o5, (by rw [hc46]; exact F_o5_ordinal), ⟨fun q => absurd q ne_o5_o8, fun q => absurd (hc46.symm.trans q) (by decide)⟩⟩
            · have pre13 : ∀ t, Steps p.tables e below (s₁.setTop (mkF m 56 #[.val (.int p1)] [(.int (6 : Int32)), (.int p1)])) t → Steps p.tables e below (s₁.setTop (entryFrame m #[(.int p1)] 1)) t := fun t k => by
                refine pre11 _ ?_
                show Steps p.tables e below (s₁.setTop (mkF m 46 #[.val (.int p1)] [(.int (5 : Int32)), (.int p1)])) _
                refine XS.icmpYes X0.here hx rfl (pc0 := 46) (pc' := 53) rfl (hb hby own_d1_46) rfl (feq hc46).2 (by decide) (by decide) ?_
                show Steps p.tables e below (s₁.setTop (mkF m 53 #[.val (.int p1)] [])) _
                refine XS.iloadN X0.here hx rfl (hb hby own_d1_53) rfl ?_
                show Steps p.tables e below (s₁.setTop (mkF m 54 #[.val (.int p1)] [(.int p1)])) _
                refine XS.bipush X0.here hx rfl (hb hby own_d1_54) ?_
                exact k
              by_cases hc56 : p1 = (6 : Int32)
              · obtain ⟨T14, X14, e14, st14⟩ := getS2 X0 hx hZ hown (host := "") (Or.inl (hw _ (List.mem_of_getElem? (i := 48) rfl))) Via.refl e0 S_SHARE_ROW_EXCLUSIVE (g := (mkF m 59 #[.val (.int p1)] [])) rfl (hb hby own_d1_59)
                obtain ⟨fs, hr, hrun, hended, hW, hsame⟩ := X14.leave (v := some (.ref o6)) (fun h => by rw [Bd.returns] at h; cases h)
                refine ⟨_, _, pre13 _ ?_, hrun, hended, _, _, rfl, ?_, ⟨_, rfl⟩, hW, hsame.mono (by decide) (by decide)⟩
                · show Steps p.tables e below (s₁.setTop (mkF m 56 #[.val (.int p1)] [(.int (6 : Int32)), (.int p1)])) _
                  refine XS.icmpNo X0.here hx rfl (hb hby own_d1_56) rfl (teq hc56).2 ?_
                  show Steps p.tables e below (s₁.setTop (mkF m 59 #[.val (.int p1)] [])) _
                  refine st14 _ ?_
                  show Steps p.tables e below (T14.setTop (mkF m 62 #[.val (.int p1)] [(.ref o6)])) _
                  jvm_step X14.here [X14.here.top, hx, (hb hby own_d1_62), X14.method', Bd.returns, Value.isRef, FieldType.isReference]
                  first | (intro acts; rw [hr _ acts rfl rfl rfl]) | rw [hr _ _ rfl rfl rfl]
                  exact Steps.refl _
                · show QM Z p1 o0 o1 o2 o3 o4 o5 o6 o7 o8 h0 n0 _ T14.heap _
                  rw [e14]
                  exact ⟨o6, rfl, N0, rfl, E_o6, (by rw [hc56]; exact F_o6_ordinal), ⟨fun q => absurd q ne_o6_o8, fun q => absurd (hc56.symm.trans q) (by decide)⟩⟩
              · have pre15 : ∀ t, Steps p.tables e below (s₁.setTop (mkF m 66 #[.val (.int p1)] [(.int (7 : Int32)), (.int p1)])) t → Steps p.tables e below (s₁.setTop (entryFrame m #[(.int p1)] 1)) t := fun t k => by
                  refine pre13 _ ?_
                  show Steps p.tables e below (s₁.setTop (mkF m 56 #[.val (.int p1)] [(.int (6 : Int32)), (.int p1)])) _
                  refine XS.icmpYes X0.here hx rfl (pc0 := 56) (pc' := 63) rfl (hb hby own_d1_56) rfl (feq hc56).2 (by decide) (by decide) ?_
                  show Steps p.tables e below (s₁.setTop (mkF m 63 #[.val (.int p1)] [])) _
                  refine XS.iloadN X0.here hx rfl (hb hby own_d1_63) rfl ?_
                  show Steps p.tables e below (s₁.setTop (mkF m 64 #[.val (.int p1)] [(.int p1)])) _
                  refine XS.bipush X0.here hx rfl (hb hby own_d1_64) ?_
                  exact k
                by_cases hc66 : p1 = (7 : Int32)
                · obtain ⟨T16, X16, e16, st16⟩ := getS2 X0 hx hZ hown (host := "") (Or.inl (hw _ (List.mem_of_getElem? (i := 57) rfl))) Via.refl e0 S_EXCLUSIVE (g := (mkF m 69 #[.val (.int p1)] [])) rfl (hb hby own_d1_69)
                  obtain ⟨fs, hr, hrun, hended, hW, hsame⟩ := X16.leave (v := some (.ref o7)) (fun h => by rw [Bd.returns] at h; cases h)
                  refine ⟨_, _, pre15 _ ?_, hrun, hended, _, _, rfl, ?_, ⟨_, rfl⟩, hW, hsame.mono (by decide) (by decide)⟩
                  · show Steps p.tables e below (s₁.setTop (mkF m 66 #[.val (.int p1)] [(.int (7 : Int32)), (.int p1)])) _
                    refine XS.icmpNo X0.here hx rfl (hb hby own_d1_66) rfl (teq hc66).2 ?_
                    show Steps p.tables e below (s₁.setTop (mkF m 69 #[.val (.int p1)] [])) _
                    refine st16 _ ?_
                    show Steps p.tables e below (T16.setTop (mkF m 72 #[.val (.int p1)] [(.ref o7)])) _
                    jvm_step X16.here [X16.here.top, hx, (hb hby own_d1_72), X16.method', Bd.returns, Value.isRef, FieldType.isReference]
                    first | (intro acts; rw [hr _ acts rfl rfl rfl]) | rw [hr _ _ rfl rfl rfl]
                    exact Steps.refl _
                  · show QM Z p1 o0 o1 o2 o3 o4 o5 o6 o7 o8 h0 n0 _ T16.heap _
                    rw [e16]
                    exact ⟨o7, rfl, N0, rfl, E_o7, (by rw [hc66]; exact F_o7_ordinal), ⟨fun q => absurd q ne_o7_o8, fun q => absurd (hc66.symm.trans q) (by decide)⟩⟩
                · obtain ⟨T17, X17, e17, st17⟩ := getS2 X0 hx hZ hown (host := "") (Or.inl (hw _ (List.mem_of_getElem? (i := 50) rfl))) Via.refl e0 S_ACCESS_EXCLUSIVE (g := (mkF m 73 #[.val (.int p1)] [])) rfl (hb hby own_d1_73)
                  obtain ⟨fs, hr, hrun, hended, hW, hsame⟩ := X17.leave (v := some (.ref o8)) (fun h => by rw [Bd.returns] at h; cases h)
                  refine ⟨_, _, pre15 _ ?_, hrun, hended, _, _, rfl, ?_, ⟨_, rfl⟩, hW, hsame.mono (by decide) (by decide)⟩
                  · show Steps p.tables e below (s₁.setTop (mkF m 66 #[.val (.int p1)] [(.int (7 : Int32)), (.int p1)])) _
                    refine XS.icmpYes X0.here hx rfl (pc0 := 66) (pc' := 73) rfl (hb hby own_d1_66) rfl (feq hc66).2 (by decide) (by decide) ?_
                    show Steps p.tables e below (s₁.setTop (mkF m 73 #[.val (.int p1)] [])) _
                    refine st17 _ ?_
                    show Steps p.tables e below (T17.setTop (mkF m 76 #[.val (.int p1)] [(.ref o8)])) _
                    jvm_step X17.here [X17.here.top, hx, (hb hby own_d1_76), X17.method', Bd.returns, Value.isRef, FieldType.isReference]
                    first | (intro acts; rw [hr _ acts rfl rfl rfl]) | rw [hr _ _ rfl rfl rfl]
                    exact Steps.refl _
                  · show QM Z p1 o0 o1 o2 o3 o4 o5 o6 o7 o8 h0 n0 _ T17.heap _
                    rw [e17]
                    exact ⟨o8, rfl, N0, rfl, E_o8, (by rw [(by grind : p1 = (8 : Int32))]; exact F_o8_ordinal), ⟨fun _ => (by grind), fun _ => rfl⟩⟩
theorem own_d2_0 : decode prog_27_method_7_code 0 = .ok (.aload_n 0, 1) := by decide +kernel
theorem own_d2_1 : decode prog_27_method_7_code 1 = .ok (.getstatic 28, 3) := by decide +kernel
theorem own_d2_4 : decode prog_27_method_7_code 4 = .ok (.if_acmp .ne 7, 3) := by decide +kernel
theorem own_d2_7 : decode prog_27_method_7_code 7 = .ok (.iconst 1, 1) := by decide +kernel
theorem own_d2_8 : decode prog_27_method_7_code 8 = .ok (.goto 4, 3) := by decide +kernel
theorem own_d2_12 : decode prog_27_method_7_code 12 = .ok (.ireturn, 1) := by decide +kernel
theorem own_d2_11 : decode prog_27_method_7_code 11 = .ok (.iconst 0, 1) := by decide +kernel
def own_f_rmBR (a1 : Addr) (o8 : Addr) : Int32 := if a1 = o8 then (1 : Int32) else (0 : Int32)
theorem own_pn1 : plainName "com/example/alterlint/alterlint/model/LockMode" = true := by first | (simp [plainName, overriddenIn]; done) | decide +kernel
theorem own_ef_rmBR (m : MethodId) (a1 : Addr) : entryFrame m #[(.ref a1)] 1 = mkF m 0 #[.val (.ref a1)] [] := by first | (simp [entryFrame, mkF, argsToLocals, Value.category]; done) | rfl
def QBR (Z : State) (a1 : Addr) (o8 : Addr) (h0 : Heap) (n0 : Nat) (v : Option Value) (h : Heap) (L : List Loc) : Prop := v = some (.int (own_f_rmBR a1 o8)) ∧ Fr n0 L ∧ h = h0
set_option maxRecDepth 65536 in
set_option maxHeartbeats 40000000 in
theorem rmBR (l : Launch) (Z : State) (a0 : Array Value) (hw : ∀ d ∈ tables_1, d.before a0 Z = true) (ws : List Jvm.Cond) (a1 : Addr) (o8 : Addr) (h0 : Heap) (n0 : Nat) (Z0 : n0 ≤ h0.size) (S_ACCESS_EXCLUSIVE : Sta Z h0 "com/example/alterlint/alterlint/model/LockMode" "ACCESS_EXCLUSIVE" "Lcom/example/alterlint/alterlint/model/LockMode;" (.ref o8)) :
    MetFree l (⟨"com/example/alterlint/alterlint/model/LockMode", "blocksReads", "()Z"⟩ : MethodName) (head1 (Jvm.Cond.code (⟨"com/example/alterlint/alterlint/model/LockMode", "blocksReads", "()Z"⟩ : MethodName) prog_27_method_7_code 1 (some .boolean) :: ws) ({ frames := 0, cells := 0, slots := 0, locals := 0 } : Room)) (fun a U => a = #[(.ref a1)] ∧ Z.Warmed39 U.vm ∧ U.heap = h0) (fun _ _ _ _ _ => True) (fun _ U o U' => ∃ v L, o = .returned v ∧ QBR Z a1 o8 h0 n0 v U'.heap L ∧ FrameEnd U o U' L ({ frames := 0, cells := 0, slots := 0, locals := 0 } : Room).cells ({ frames := 0, cells := 0, slots := 0, locals := 0 } : Room).slots) := by
  refine MetFree.of_bodySF (plainFor_of_name own_pn1) hisR ?_
  intro p e s m args below meth c s₁ Bd hml0 hP hK
  obtain ⟨rfl, hZ, hh⟩ := hP
  have hx := Bd.exec
  have hby := Bd.bytes
  have hml : c.maxLocals = 1 := hml0
  have hown : s.vm.findClass "com/example/alterlint/alterlint/model/LockMode" = some m.cls := findClass_of_methodNamed Bd.named
  have hnm := (name_of_methodNamed Bd.named Bd.method).1
  have X0 : Stand p l e ({ frames := 0, cells := 0, slots := 0, locals := 0 } : Room) s m #[(.ref a1)] below meth c s₁ [] 0 0 := Stand.of_body Bd
  have e0 : s₁.heap = h0 := by rw [← hh, Bd.state]; rfl
  have N0 := Fr.nil n0
  have K0 : Keep h0 h0 [] := Keep.refl h0 _
  have pre0 : ∀ t, Steps p.tables e below (s₁.setTop (mkF m 0 #[.val (.ref a1)] [])) t → Steps p.tables e below (s₁.setTop (entryFrame m #[(.ref a1)] 1)) t := fun t k => castTop (own_ef_rmBR m a1) k
  obtain ⟨T20, X20, e20, st20⟩ := getS2 X0 hx hZ hown (host := "") (Or.inl (hw _ (List.mem_of_getElem? (i := 15) rfl))) Via.refl e0 S_ACCESS_EXCLUSIVE (g := (mkF m 1 #[.val (.ref a1)] [(.ref a1)])) rfl (hb hby own_d2_1)
  have pre21 : ∀ t, Steps p.tables e below (T20.setTop (mkF m 4 #[.val (.ref a1)] [(.ref o8), (.ref a1)])) t → Steps p.tables e below (s₁.setTop (entryFrame m #[(.ref a1)] 1)) t := fun t k => by
    refine pre0 _ ?_
    show Steps p.tables e below (s₁.setTop (mkF m 0 #[.val (.ref a1)] [])) _
    refine XS.aloadN X0.here hx rfl (hb hby own_d2_0) rfl rfl ?_
    show Steps p.tables e below (s₁.setTop (mkF m 1 #[.val (.ref a1)] [(.ref a1)])) _
    refine st20 _ ?_
    exact k
  by_cases ha4 : a1 = o8
  · obtain ⟨fs, hr, hrun, hended, hW, hsame⟩ := X20.leave (v := some (.int (1 : Int32))) (fun h => by rw [Bd.returns] at h; cases h)
    refine ⟨_, _, pre21 _ ?_, hrun, hended, _, _, rfl, ?_, ⟨_, rfl⟩, hW, hsame.mono (by decide) (by decide)⟩
    · show Steps p.tables e below (T20.setTop (mkF m 4 #[.val (.ref a1)] [(.ref o8), (.ref a1)])) _
      refine Jvm.RoadKit.acmp (g := (mkF m 4 #[.val (.ref a1)] [(.ref o8), (.ref a1)])) X20 hx rfl rfl rfl (pc0 := 4) (pc' := 7) (same := true) rfl (hb hby own_d2_4) rfl (decide_eq_true (congrArg Value.ref ha4)) (by decide) (by decide) ?_
      show Steps p.tables e below (T20.setTop (mkF m 7 #[.val (.ref a1)] [])) _
      refine XS.iconst X20.here hx rfl (hb hby own_d2_7) ?_
      show Steps p.tables e below (T20.setTop (mkF m 8 #[.val (.ref a1)] [(.int (1 : Int32))])) _
      refine XS.goto X20.here hx rfl (pc0 := 8) (pc' := 12) rfl (hb hby own_d2_8) (by decide) (by decide) ?_
      show Steps p.tables e below (T20.setTop (mkF m 12 #[.val (.ref a1)] [(.int (1 : Int32))])) _
      exact retN X20 hx (t := .boolean) Bd.returns (by simp) (hb hby own_d2_12) hr
    · show QBR Z a1 o8 h0 n0 _ T20.heap _
      rw [e20]
      exact ⟨(congrArg (fun z => some (Value.int z)) (by unfold own_f_rmBR; rw [if_pos ha4] : (1 : Int32) = (own_f_rmBR a1 o8))), N0, rfl⟩
  · obtain ⟨fs, hr, hrun, hended, hW, hsame⟩ := X20.leave (v := some (.int (0 : Int32))) (fun h => by rw [Bd.returns] at h; cases h)
    refine ⟨_, _, pre21 _ ?_, hrun, hended, _, _, rfl, ?_, ⟨_, rfl⟩, hW, hsame.mono (by decide) (by decide)⟩
    · show Steps p.tables e below (T20.setTop (mkF m 4 #[.val (.ref a1)] [(.ref o8), (.ref a1)])) _
      refine Jvm.RoadKit.acmp (g := (mkF m 4 #[.val (.ref a1)] [(.ref o8), (.ref a1)])) X20 hx rfl rfl rfl (pc0 := 4) (pc' := 11) (same := false) rfl (hb hby own_d2_4) rfl (decide_eq_false fun q => ha4 (Value.ref.inj q)) (by decide) (by decide) ?_
      show Steps p.tables e below (T20.setTop (mkF m 11 #[.val (.ref a1)] [])) _
      refine XS.iconst X20.here hx rfl (hb hby own_d2_11) ?_
      show Steps p.tables e below (T20.setTop (mkF m 12 #[.val (.ref a1)] [(.int (0 : Int32))])) _
      exact retN X20 hx (t := .boolean) Bd.returns (by simp) (hb hby own_d2_12) hr
    · show QBR Z a1 o8 h0 n0 _ T20.heap _
      rw [e20]
      exact ⟨(congrArg (fun z => some (Value.int z)) (by unfold own_f_rmBR; rw [if_neg ha4] : (0 : Int32) = (own_f_rmBR a1 o8))), N0, rfl⟩
theorem own_d3_0 : decode method_3_code 0 = .ok (.iload_n 0, 1) := by decide +kernel
theorem own_d3_1 : decode method_3_code 1 = .ok (.bipush 8, 2) := by decide +kernel
theorem own_d3_3 : decode method_3_code 3 = .ok (.if_icmp .ne 7, 3) := by decide +kernel
theorem own_d3_6 : decode method_3_code 6 = .ok (.iconst 1, 1) := by decide +kernel
theorem own_d3_7 : decode method_3_code 7 = .ok (.goto 4, 3) := by decide +kernel
theorem own_d3_11 : decode method_3_code 11 = .ok (.ireturn, 1) := by decide +kernel
theorem own_d3_10 : decode method_3_code 10 = .ok (.iconst 0, 1) := by decide +kernel
def own_f_rmK (p1 : Int32) : Int32 := if p1 = (8 : Int32) then (1 : Int32) else (0 : Int32)
theorem own_ef_rmK (m : MethodId) (p1 : Int32) : entryFrame m #[(.int p1)] 1 = mkF m 0 #[.val (.int p1)] [] := by first | (simp [entryFrame, mkF, argsToLocals, Value.category]; done) | rfl
def QK (Z : State) (p1 : Int32) (h0 : Heap) (n0 : Nat) (v : Option Value) (h : Heap) (L : List Loc) : Prop := v = some (.int (own_f_rmK p1)) ∧ Fr n0 L ∧ h = h0
set_option maxRecDepth 65536 in
set_option maxHeartbeats 40000000 in
theorem rmK (l : Launch) (Z : State) (a0 : Array Value) (hw : ∀ d ∈ tables_1, d.before a0 Z = true) (ws : List Jvm.Cond) (p1 : Int32) (h0 : Heap) (n0 : Nat) (Z0 : n0 ≤ h0.size) :
    MetFree l (⟨"com/example/alterlint/alterlint/model/LockModeBlocksReadsPinLaw", "conflictsWithAccessShare", "(I)Z"⟩ : MethodName) (head1 (Jvm.Cond.code (⟨"com/example/alterlint/alterlint/model/LockModeBlocksReadsPinLaw", "conflictsWithAccessShare", "(I)Z"⟩ : MethodName) method_3_code 1 (some .boolean) :: ws) ({ frames := 0, cells := 0, slots := 0, locals := 0 } : Room)) (fun a U => a = #[(.int p1)] ∧ Z.Warmed39 U.vm ∧ U.heap = h0) (fun _ _ _ _ _ => True) (fun _ U o U' => ∃ v L, o = .returned v ∧ QK Z p1 h0 n0 v U'.heap L ∧ FrameEnd U o U' L ({ frames := 0, cells := 0, slots := 0, locals := 0 } : Room).cells ({ frames := 0, cells := 0, slots := 0, locals := 0 } : Room).slots) := by
  refine MetFree.of_bodySF (plainFor_of_name own_pn0) hisR ?_
  intro p e s m args below meth c s₁ Bd hml0 hP hK
  obtain ⟨rfl, hZ, hh⟩ := hP
  have hx := Bd.exec
  have hby := Bd.bytes
  have hml : c.maxLocals = 1 := hml0
  have hown : s.vm.findClass "com/example/alterlint/alterlint/model/LockModeBlocksReadsPinLaw" = some m.cls := findClass_of_methodNamed Bd.named
  have hnm := (name_of_methodNamed Bd.named Bd.method).1
  have X0 : Stand p l e ({ frames := 0, cells := 0, slots := 0, locals := 0 } : Room) s m #[(.int p1)] below meth c s₁ [] 0 0 := Stand.of_body Bd
  have e0 : s₁.heap = h0 := by rw [← hh, Bd.state]; rfl
  have N0 := Fr.nil n0
  have K0 : Keep h0 h0 [] := Keep.refl h0 _
  have pre0 : ∀ t, Steps p.tables e below (s₁.setTop (mkF m 0 #[.val (.int p1)] [])) t → Steps p.tables e below (s₁.setTop (entryFrame m #[(.int p1)] 1)) t := fun t k => castTop (own_ef_rmK m p1) k
  have pre23 : ∀ t, Steps p.tables e below (s₁.setTop (mkF m 3 #[.val (.int p1)] [(.int (8 : Int32)), (.int p1)])) t → Steps p.tables e below (s₁.setTop (entryFrame m #[(.int p1)] 1)) t := fun t k => by
    refine pre0 _ ?_
    show Steps p.tables e below (s₁.setTop (mkF m 0 #[.val (.int p1)] [])) _
    refine XS.iloadN X0.here hx rfl (hb hby own_d3_0) rfl ?_
    show Steps p.tables e below (s₁.setTop (mkF m 1 #[.val (.int p1)] [(.int p1)])) _
    refine XS.bipush X0.here hx rfl (hb hby own_d3_1) ?_
    exact k
  by_cases hc3 : p1 = (8 : Int32)
  · obtain ⟨fs, hr, hrun, hended, hW, hsame⟩ := X0.leave (v := some (.int (1 : Int32))) (fun h => by rw [Bd.returns] at h; cases h)
    refine ⟨_, _, pre23 _ ?_, hrun, hended, _, _, rfl, ?_, ⟨_, rfl⟩, hW, hsame.mono (by decide) (by decide)⟩
    · show Steps p.tables e below (s₁.setTop (mkF m 3 #[.val (.int p1)] [(.int (8 : Int32)), (.int p1)])) _
      refine XS.icmpNo X0.here hx rfl (hb hby own_d3_3) rfl (teq hc3).2 ?_
      show Steps p.tables e below (s₁.setTop (mkF m 6 #[.val (.int p1)] [])) _
      refine XS.iconst X0.here hx rfl (hb hby own_d3_6) ?_
      show Steps p.tables e below (s₁.setTop (mkF m 7 #[.val (.int p1)] [(.int (1 : Int32))])) _
      refine XS.goto X0.here hx rfl (pc0 := 7) (pc' := 11) rfl (hb hby own_d3_7) (by decide) (by decide) ?_
      show Steps p.tables e below (s₁.setTop (mkF m 11 #[.val (.int p1)] [(.int (1 : Int32))])) _
      exact retN X0 hx (t := .boolean) Bd.returns (by simp) (hb hby own_d3_11) hr
    · show QK Z p1 h0 n0 _ s₁.heap _
      rw [e0]
      exact ⟨(congrArg (fun z => some (Value.int z)) (by unfold own_f_rmK; rw [if_pos hc3] : (1 : Int32) = (own_f_rmK p1))), N0, rfl⟩
  · obtain ⟨fs, hr, hrun, hended, hW, hsame⟩ := X0.leave (v := some (.int (0 : Int32))) (fun h => by rw [Bd.returns] at h; cases h)
    refine ⟨_, _, pre23 _ ?_, hrun, hended, _, _, rfl, ?_, ⟨_, rfl⟩, hW, hsame.mono (by decide) (by decide)⟩
    · show Steps p.tables e below (s₁.setTop (mkF m 3 #[.val (.int p1)] [(.int (8 : Int32)), (.int p1)])) _
      refine XS.icmpYes X0.here hx rfl (pc0 := 3) (pc' := 10) rfl (hb hby own_d3_3) rfl (feq hc3).2 (by decide) (by decide) ?_
      show Steps p.tables e below (s₁.setTop (mkF m 10 #[.val (.int p1)] [])) _
      refine XS.iconst X0.here hx rfl (hb hby own_d3_10) ?_
      show Steps p.tables e below (s₁.setTop (mkF m 11 #[.val (.int p1)] [(.int (0 : Int32))])) _
      exact retN X0 hx (t := .boolean) Bd.returns (by simp) (hb hby own_d3_11) hr
    · show QK Z p1 h0 n0 _ s₁.heap _
      rw [e0]
      exact ⟨(congrArg (fun z => some (Value.int z)) (by unfold own_f_rmK; rw [if_neg hc3] : (0 : Int32) = (own_f_rmK p1))), N0, rfl⟩
theorem own_d5_0 : decode jdk_37_method_8_code 0 = .ok (.aload_n 1, 1) := by decide +kernel
theorem own_d5_1 : decode jdk_37_method_8_code 1 = .ok (.astore_n 2, 1) := by decide +kernel
theorem own_d5_2 : decode jdk_37_method_8_code 2 = .ok (.aload_n 0, 1) := by decide +kernel
theorem own_d5_3 : decode jdk_37_method_8_code 3 = .ok (.astore_n 3, 1) := by decide +kernel
theorem own_d5_4 : decode jdk_37_method_8_code 4 = .ok (.aload_n 3, 1) := by decide +kernel
theorem own_d5_5 : decode jdk_37_method_8_code 5 = .ok (.invokevirtual 29, 3) := by decide +kernel
theorem own_d5_8 : decode jdk_37_method_8_code 8 = .ok (.aload_n 2, 1) := by decide +kernel
theorem own_d5_9 : decode jdk_37_method_8_code 9 = .ok (.invokevirtual 29, 3) := by decide +kernel
theorem own_d5_12 : decode jdk_37_method_8_code 12 = .ok (.if_acmp .eq 22, 3) := by decide +kernel
theorem own_d5_34 : decode jdk_37_method_8_code 34 = .ok (.aload_n 3, 1) := by decide +kernel
theorem own_d5_35 : decode jdk_37_method_8_code 35 = .ok (.getfield 7, 3) := by decide +kernel
theorem own_d5_38 : decode jdk_37_method_8_code 38 = .ok (.aload_n 2, 1) := by decide +kernel
theorem own_d5_39 : decode jdk_37_method_8_code 39 = .ok (.getfield 7, 3) := by decide +kernel
theorem own_d5_42 : decode jdk_37_method_8_code 42 = .ok (.isub, 1) := by decide +kernel
theorem own_d5_43 : decode jdk_37_method_8_code 43 = .ok (.ireturn, 1) := by decide +kernel
theorem own_pn2 : plainName "java/lang/Enum" = true := by first | (simp [plainName, overriddenIn]; done) | decide +kernel
theorem own_ef_rmC (m : MethodId) (a1 : Addr) (a2 : Addr) : entryFrame m #[(.ref a1), (.ref a2)] 4 = mkF m 0 #[.val (.ref a1), .val (.ref a2), .unset, .unset] [] := by first | (simp [entryFrame, mkF, argsToLocals, Value.category]; done) | rfl
def QC (Z : State) (a1 : Addr) (a2 : Addr) (mr : Addr) (w1 : Int32) (w2 : Int32) (h0 : Heap) (n0 : Nat) (v : Option Value) (h : Heap) (L : List Loc) : Prop := v = some (.int (w1 - w2)) ∧ Fr n0 L ∧ h = h0
set_option maxRecDepth 65536 in
set_option maxHeartbeats 40000000 in
theorem rmC (l : Launch) (Z : State) (a0 : Array Value) (hw : ∀ d ∈ tables_1, d.before a0 Z = true) (ws : List Jvm.Cond) (a1 : Addr) (a2 : Addr) (mr : Addr) (w1 : Int32) (w2 : Int32) (h0 : Heap) (n0 : Nat) (Z0 : n0 ≤ h0.size) (E_a1 : Exa Z h0 a1 "com/example/alterlint/alterlint/model/LockMode") (F_a1_ordinal : Fld Z h0 a1 "java/lang/Enum" "ordinal" "I" (.int w1)) (E_a2 : Exa Z h0 a2 "com/example/alterlint/alterlint/model/LockMode") (F_a2_ordinal : Fld Z h0 a2 "java/lang/Enum" "ordinal" "I" (.int w2)) (M : Mir Z "com/example/alterlint/alterlint/model/LockMode" mr) :
    MetFree l (⟨"java/lang/Enum", "compareTo", "(Ljava/lang/Enum;)I"⟩ : MethodName) (head1 (Jvm.Cond.code (⟨"java/lang/Enum", "compareTo", "(Ljava/lang/Enum;)I"⟩ : MethodName) jdk_37_method_8_code 4 (some .int) :: ws) ({ frames := 1, cells := 0, slots := 0, locals := 16 } : Room)) (fun a U => a = #[(.ref a1), (.ref a2)] ∧ Z.Warmed39 U.vm ∧ U.heap = h0) (fun _ _ _ _ _ => True) (fun _ U o U' => ∃ v L, o = .returned v ∧ QC Z a1 a2 mr w1 w2 h0 n0 v U'.heap L ∧ FrameEnd U o U' L ({ frames := 1, cells := 0, slots := 0, locals := 16 } : Room).cells ({ frames := 1, cells := 0, slots := 0, locals := 16 } : Room).slots) := by
  refine MetFree.of_bodySF (plainFor_of_name own_pn2) hisR ?_
  intro p e s m args below meth c s₁ Bd hml0 hP hK
  obtain ⟨rfl, hZ, hh⟩ := hP
  have hx := Bd.exec
  have hby := Bd.bytes
  have hml : c.maxLocals = 4 := hml0
  have hown : s.vm.findClass "java/lang/Enum" = some m.cls := findClass_of_methodNamed Bd.named
  have hnm := (name_of_methodNamed Bd.named Bd.method).1
  have X0 : Stand p l e ({ frames := 1, cells := 0, slots := 0, locals := 16 } : Room) s m #[(.ref a1), (.ref a2)] below meth c s₁ [] 0 0 := Stand.of_body Bd
  have e0 : s₁.heap = h0 := by rw [← hh, Bd.state]; rfl
  have N0 := Fr.nil n0
  have K0 : Keep h0 h0 [] := Keep.refl h0 _
  have pre0 : ∀ t, Steps p.tables e below (s₁.setTop (mkF m 0 #[.val (.ref a1), .val (.ref a2), .unset, .unset] [])) t → Steps p.tables e below (s₁.setTop (entryFrame m #[(.ref a1), (.ref a2)] 4)) t := fun t k => castTop (own_ef_rmC m a1 a2) k
  obtain ⟨cq24, kq24, q24a, q24b, q24c⟩ := isOf hZ e0 E_a1
  obtain ⟨vm24, XV24, st24⟩ := X0.getClassOf hx (C := "com/example/alterlint/alterlint/model/LockMode") hown (mvT hZ (hw _ (List.mem_of_getElem? (i := 32) rfl))) (mvT hZ (hw _ (List.mem_of_getElem? (i := 33) rfl))) (notFace_of_selects (args := #[]) (mvT hZ (hw _ (List.mem_of_getElem? (i := 35) rfl)))) (mvT hZ (hw _ (List.mem_of_getElem? (i := 35) rfl))) (mvT hZ (hw _ (List.mem_of_getElem? (i := 34) rfl))) (mvT hZ (hw _ (List.mem_of_getElem? (i := 36) rfl))) q24a q24c q24b (own_mir hZ M q24a q24b) (g := (mkF m 5 #[.val (.ref a1), .val (.ref a2), .val (.ref a2), .val (.ref a1)] [(.ref a1)])) rfl (by rw [hml]; rfl) (rest := []) rfl (hb hby own_d5_5) (by decide) (by show 2 * 0 + _ + (3 + 11) ≤ _; exact Nat.le_of_ble_eq_true rfl)
  obtain ⟨T24, hT24⟩ : ∃ T', T' = s₁.setVm vm24 := ⟨_, rfl⟩
  have X24 := XV24
  rw [← hT24] at X24 st24
  have e24 : T24.heap = h0 := by rw [hT24]; exact e0
  obtain ⟨cq25, kq25, q25a, q25b, q25c⟩ := isOf hZ e24 E_a2
  obtain ⟨vm25, XV25, st25⟩ := X24.getClassOf hx (C := "com/example/alterlint/alterlint/model/LockMode") hown (mvT hZ (hw _ (List.mem_of_getElem? (i := 32) rfl))) (mvT hZ (hw _ (List.mem_of_getElem? (i := 33) rfl))) (notFace_of_selects (args := #[]) (mvT hZ (hw _ (List.mem_of_getElem? (i := 35) rfl)))) (mvT hZ (hw _ (List.mem_of_getElem? (i := 35) rfl))) (mvT hZ (hw _ (List.mem_of_getElem? (i := 34) rfl))) (mvT hZ (hw _ (List.mem_of_getElem? (i := 36) rfl))) q25a q25c q25b (own_mir hZ M q25a q25b) (g := (mkF m 9 #[.val (.ref a1), .val (.ref a2), .val (.ref a2), .val (.ref a1)] [(.ref a2), (.ref mr)])) rfl (by rw [hml]; rfl) (rest := [(.ref mr)]) rfl (hb hby own_d5_9) (by decide) (by show 2 * 0 + _ + (3 + 11) ≤ _; exact Nat.le_of_ble_eq_true rfl)
  obtain ⟨T25, hT25⟩ : ∃ T', T' = T24.setVm vm25 := ⟨_, rfl⟩
  have X25 := XV25
  rw [← hT25] at X25 st25
  have e25 : T25.heap = h0 := by rw [hT25]; exact e24
  obtain ⟨T26, X26, e26, st26⟩ := getF X25 hx hZ hown (host := "") (Or.inl (hw _ (List.mem_of_getElem? (i := 38) rfl))) Via.refl e25 F_a1_ordinal (g := (mkF m 35 #[.val (.ref a1), .val (.ref a2), .val (.ref a2), .val (.ref a1)] [(.ref a1)])) rfl rfl (hb hby own_d5_35)
  obtain ⟨T27, X27, e27, st27⟩ := getF X26 hx hZ hown (host := "") (Or.inl (hw _ (List.mem_of_getElem? (i := 38) rfl))) Via.refl e26 F_a2_ordinal (g := (mkF m 39 #[.val (.ref a1), .val (.ref a2), .val (.ref a2), .val (.ref a1)] [(.ref a2), (.int w1)])) rfl rfl (hb hby own_d5_39)
  obtain ⟨fs, hr, hrun, hended, hW, hsame⟩ := X27.leave (v := some (.int (w1 - w2))) (fun h => by rw [Bd.returns] at h; cases h)
  refine ⟨_, _, pre0 _ ?_, hrun, hended, _, _, rfl, ?_, ⟨_, rfl⟩, hW, hsame.mono (by decide) (by decide)⟩
  · show Steps p.tables e below (s₁.setTop (mkF m 0 #[.val (.ref a1), .val (.ref a2), .unset, .unset] [])) _
    refine XS.aloadN X0.here hx rfl (hb hby own_d5_0) rfl rfl ?_
    show Steps p.tables e below (s₁.setTop (mkF m 1 #[.val (.ref a1), .val (.ref a2), .unset, .unset] [(.ref a2)])) _
    refine XS.astoreN X0.here hx rfl (hb hby own_d5_1) rfl rfl (l' := #[.val (.ref a1), .val (.ref a2), .val (.ref a2), .unset]) rfl ?_
    show Steps p.tables e below (s₁.setTop (mkF m 2 #[.val (.ref a1), .val (.ref a2), .val (.ref a2), .unset] [])) _
    refine XS.aloadN X0.here hx rfl (hb hby own_d5_2) rfl rfl ?_
    show Steps p.tables e below (s₁.setTop (mkF m 3 #[.val (.ref a1), .val (.ref a2), .val (.ref a2), .unset] [(.ref a1)])) _
    refine XS.astoreN X0.here hx rfl (hb hby own_d5_3) rfl rfl (l' := #[.val (.ref a1), .val (.ref a2), .val (.ref a2), .val (.ref a1)]) rfl ?_
    show Steps p.tables e below (s₁.setTop (mkF m 4 #[.val (.ref a1), .val (.ref a2), .val (.ref a2), .val (.ref a1)] [])) _
    refine XS.aloadN X0.here hx rfl (hb hby own_d5_4) rfl rfl ?_
    show Steps p.tables e below (s₁.setTop (mkF m 5 #[.val (.ref a1), .val (.ref a2), .val (.ref a2), .val (.ref a1)] [(.ref a1)])) _
    refine st24 _ ?_
    show Steps p.tables e below (T24.setTop (mkF m 8 #[.val (.ref a1), .val (.ref a2), .val (.ref a2), .val (.ref a1)] [(.ref mr)])) _
    refine XS.aloadN X24.here hx rfl (hb hby own_d5_8) rfl rfl ?_
    show Steps p.tables e below (T24.setTop (mkF m 9 #[.val (.ref a1), .val (.ref a2), .val (.ref a2), .val (.ref a1)] [(.ref a2), (.ref mr)])) _
    refine st25 _ ?_
    show Steps p.tables e below (T25.setTop (mkF m 12 #[.val (.ref a1), .val (.ref a2), .val (.ref a2), .val (.ref a1)] [(.ref mr), (.ref mr)])) _
    refine Jvm.RoadKit.acmp (g := (mkF m 12 #[.val (.ref a1), .val (.ref a2), .val (.ref a2), .val (.ref a1)] [(.ref mr), (.ref mr)])) X25 hx rfl rfl rfl (pc0 := 12) (pc' := 34) (same := true) rfl (hb hby own_d5_12) rfl (decide_eq_true rfl) (by decide) (by decide) ?_
    show Steps p.tables e below (T25.setTop (mkF m 34 #[.val (.ref a1), .val (.ref a2), .val (.ref a2), .val (.ref a1)] [])) _
    refine XS.aloadN X25.here hx rfl (hb hby own_d5_34) rfl rfl ?_
    show Steps p.tables e below (T25.setTop (mkF m 35 #[.val (.ref a1), .val (.ref a2), .val (.ref a2), .val (.ref a1)] [(.ref a1)])) _
    refine st26 _ ?_
    show Steps p.tables e below (T26.setTop (mkF m 38 #[.val (.ref a1), .val (.ref a2), .val (.ref a2), .val (.ref a1)] [(.int w1)])) _
    refine XS.aloadN X26.here hx rfl (hb hby own_d5_38) rfl rfl ?_
    show Steps p.tables e below (T26.setTop (mkF m 39 #[.val (.ref a1), .val (.ref a2), .val (.ref a2), .val (.ref a1)] [(.ref a2), (.int w1)])) _
    refine st27 _ ?_
    show Steps p.tables e below (T27.setTop (mkF m 42 #[.val (.ref a1), .val (.ref a2), .val (.ref a2), .val (.ref a1)] [(.int w2), (.int w1)])) _
    refine XS.isub X27.here hx rfl (hb hby own_d5_42) rfl ?_
    show Steps p.tables e below (T27.setTop (mkF m 43 #[.val (.ref a1), .val (.ref a2), .val (.ref a2), .val (.ref a1)] [(.int (w1 - w2))])) _
    exact retI X27 hx Bd.returns (hb hby own_d5_43) hr
  · show QC Z a1 a2 mr w1 w2 h0 n0 _ T27.heap _
    rw [e27]
    exact ⟨rfl, N0, rfl⟩
theorem own_d4_0 : decode prog_27_method_8_code 0 = .ok (.aload_n 0, 1) := by decide +kernel
theorem own_d4_1 : decode prog_27_method_8_code 1 = .ok (.aload_n 1, 1) := by decide +kernel
theorem own_d4_2 : decode prog_27_method_8_code 2 = .ok (.invokevirtual 87, 3) := by decide +kernel
theorem own_pd0 : parseMethodDescriptor "(Ljava/lang/Enum;)I" = some ⟨[(.object "java/lang/Enum")], some .int⟩ := by decide +kernel
theorem own_d4_5 : decode prog_27_method_8_code 5 = .ok (.ifCond .lt 7, 3) := by decide +kernel
theorem own_d4_12 : decode prog_27_method_8_code 12 = .ok (.aload_n 1, 1) := by decide +kernel
theorem own_d4_13 : decode prog_27_method_8_code 13 = .ok (.areturn, 1) := by decide +kernel
theorem own_d4_8 : decode prog_27_method_8_code 8 = .ok (.aload_n 0, 1) := by decide +kernel
theorem own_d4_9 : decode prog_27_method_8_code 9 = .ok (.goto 4, 3) := by decide +kernel
theorem own_ef_rmX (m : MethodId) (a1 : Addr) (a2 : Addr) : entryFrame m #[(.ref a1), (.ref a2)] 2 = mkF m 0 #[.val (.ref a1), .val (.ref a2)] [] := by first | (simp [entryFrame, mkF, argsToLocals, Value.category]; done) | rfl
def QX (Z : State) (a1 : Addr) (a2 : Addr) (mr : Addr) (w1 : Int32) (w2 : Int32) (h0 : Heap) (n0 : Nat) (v : Option Value) (h : Heap) (L : List Loc) : Prop := ∃ r : Addr, v = some (.ref r) ∧ Fr n0 L ∧ h = h0 ∧ r = (if (w1 - w2) < (0 : Int32) then a2 else a1)
set_option maxRecDepth 65536 in
set_option maxHeartbeats 40000000 in
theorem rmX (l : Launch) (Z : State) (a0 : Array Value) (hw : ∀ d ∈ tables_1, d.before a0 Z = true) (ws : List Jvm.Cond) (a1 : Addr) (a2 : Addr) (mr : Addr) (w1 : Int32) (w2 : Int32) (h0 : Heap) (n0 : Nat) (Z0 : n0 ≤ h0.size) (E_a1 : Exa Z h0 a1 "com/example/alterlint/alterlint/model/LockMode") (F_a1_ordinal : Fld Z h0 a1 "java/lang/Enum" "ordinal" "I" (.int w1)) (E_a2 : Exa Z h0 a2 "com/example/alterlint/alterlint/model/LockMode") (F_a2_ordinal : Fld Z h0 a2 "java/lang/Enum" "ordinal" "I" (.int w2)) (M : Mir Z "com/example/alterlint/alterlint/model/LockMode" mr) :
    MetFree l (⟨"com/example/alterlint/alterlint/model/LockMode", "max", "(Lcom/example/alterlint/alterlint/model/LockMode;)Lcom/example/alterlint/alterlint/model/LockMode;"⟩ : MethodName) (head1 (Jvm.Cond.code (⟨"com/example/alterlint/alterlint/model/LockMode", "max", "(Lcom/example/alterlint/alterlint/model/LockMode;)Lcom/example/alterlint/alterlint/model/LockMode;"⟩ : MethodName) prog_27_method_8_code 2 (some (.object "com/example/alterlint/alterlint/model/LockMode")) :: ws) ({ frames := 2, cells := 0, slots := 0, locals := 31 } : Room)) (fun a U => a = #[(.ref a1), (.ref a2)] ∧ Z.Warmed39 U.vm ∧ U.heap = h0) (fun _ _ _ _ _ => True) (fun _ U o U' => ∃ v L, o = .returned v ∧ QX Z a1 a2 mr w1 w2 h0 n0 v U'.heap L ∧ FrameEnd U o U' L ({ frames := 2, cells := 0, slots := 0, locals := 31 } : Room).cells ({ frames := 2, cells := 0, slots := 0, locals := 31 } : Room).slots) := by
  refine MetFree.of_bodySF (plainFor_of_name own_pn1) hisR ?_
  intro p e s m args below meth c s₁ Bd hml0 hP hK
  obtain ⟨rfl, hZ, hh⟩ := hP
  have hx := Bd.exec
  have hby := Bd.bytes
  have hml : c.maxLocals = 2 := hml0
  have hown : s.vm.findClass "com/example/alterlint/alterlint/model/LockMode" = some m.cls := findClass_of_methodNamed Bd.named
  have hnm := (name_of_methodNamed Bd.named Bd.method).1
  have X0 : Stand p l e ({ frames := 2, cells := 0, slots := 0, locals := 31 } : Room) s m #[(.ref a1), (.ref a2)] below meth c s₁ [] 0 0 := Stand.of_body Bd
  have e0 : s₁.heap = h0 := by rw [← hh, Bd.state]; rfl
  have N0 := Fr.nil n0
  have K0 : Keep h0 h0 [] := Keep.refl h0 _
  have pre0 : ∀ t, Steps p.tables e below (s₁.setTop (mkF m 0 #[.val (.ref a1), .val (.ref a2)] [])) t → Steps p.tables e below (s₁.setTop (entryFrame m #[(.ref a1), (.ref a2)] 2)) t := fun t k => castTop (own_ef_rmX m a1 a2) k
  obtain ⟨cq28, kq28, q28a, q28b, q28c⟩ := isOf hZ e0 E_a1
  obtain ⟨_, _, ⟨T28, L28, k28, n28⟩, -, X28, ⟨Lc28, hQ28, l28, y28, z28⟩, st28⟩ := X0.virtualBackUp hx (x := (⟨"com/example/alterlint/alterlint/model/LockMode", "compareTo", "(Ljava/lang/Enum;)I"⟩ : MethodName)) (y := (⟨"java/lang/Enum", "compareTo", "(Ljava/lang/Enum;)I"⟩ : MethodName)) (owner := "java/lang/Enum") hown (mvT hZ (hw _ (List.mem_of_getElem? (i := 25) rfl))) (mvT hZ (hw _ (List.mem_of_getElem? (i := 26) rfl))) (mvT hZ (hw _ (List.mem_of_getElem? (i := 27) rfl))) (by decide) (mvT hZ (hw _ (List.mem_of_getElem? (i := 29) rfl))) (mvT hZ (hw _ (List.mem_of_getElem? (i := 28) rfl))) (backOf (W := 0) (rmC l Z a0 hw [] a1 a2 mr w1 w2 h0 n0 (Nat.le_trans Z0 K0.1) E_a1 F_a1_ordinal E_a2 F_a2_ordinal M) hZ (hw _ (List.mem_of_getElem? (i := 31) rfl)) (hw _ (List.mem_of_getElem? (i := 30) rfl)) (by decide) (by decide)) q28a q28c (g := (mkF m 2 #[.val (.ref a1), .val (.ref a2)] [(.ref a2), (.ref a1)])) rfl (by rw [hml]; rfl) (Steps.refl _) (argsL := [(.ref a2)]) (rest := []) (lenOf own_pd0 rfl) rfl (by show 2 * 0 + _ ≤ _; exact Nat.le_of_eq rfl) (hb hby own_d4_2) (fun _ _ => ⟨rfl, e0, (by decide : 0 + 0 ≤ _), (by decide : 0 + 0 ≤ _)⟩)
  dsimp only [Pt.U, Pt.locs, Pt.cells, Pt.slots] at X28 l28 y28 z28 st28 hQ28
  subst l28 y28 z28
  obtain ⟨rfl, N28q, e28⟩ := hQ28
  have N28 := Fr.app N0 N28q
  have pre29 : ∀ t, Steps p.tables e below (T28.setTop (mkF m 5 #[.val (.ref a1), .val (.ref a2)] [(.int (w1 - w2))])) t → Steps p.tables e below (s₁.setTop (entryFrame m #[(.ref a1), (.ref a2)] 2)) t := fun t k => by
    refine pre0 _ ?_
    show Steps p.tables e below (s₁.setTop (mkF m 0 #[.val (.ref a1), .val (.ref a2)] [])) _
    refine XS.aloadN X0.here hx rfl (hb hby own_d4_0) rfl rfl ?_
    show Steps p.tables e below (s₁.setTop (mkF m 1 #[.val (.ref a1), .val (.ref a2)] [(.ref a1)])) _
    refine XS.aloadN X0.here hx rfl (hb hby own_d4_1) rfl rfl ?_
    show Steps p.tables e below (s₁.setTop (mkF m 2 #[.val (.ref a1), .val (.ref a2)] [(.ref a2), (.ref a1)])) _
    refine st28.trans ?_
    exact k
  by_cases hc5 : (w1 - w2) < (0 : Int32)
  · obtain ⟨fs, hr, hrun, hended, hW, hsame⟩ := X28.leave (v := some (.ref a2)) (fun h => by rw [Bd.returns] at h; cases h)
    refine ⟨_, _, pre29 _ ?_, hrun, hended, _, _, rfl, ?_, ⟨_, rfl⟩, hW, hsame.mono (by decide) (by decide)⟩
    · show Steps p.tables e below (T28.setTop (mkF m 5 #[.val (.ref a1), .val (.ref a2)] [(.int (w1 - w2))])) _
      refine XS.ifYes X28.here hx rfl (pc0 := 5) (pc' := 12) rfl (hb hby own_d4_5) rfl ((if0 _ _).trans (tlt hc5).1) (by decide) (by decide) ?_
      show Steps p.tables e below (T28.setTop (mkF m 12 #[.val (.ref a1), .val (.ref a2)] [])) _
      refine XS.aloadN X28.here hx rfl (hb hby own_d4_12) rfl rfl ?_
      show Steps p.tables e below (T28.setTop (mkF m 13 #[.val (.ref a1), .val (.ref a2)] [(.ref a2)])) _
      jvm_step X28.here [X28.here.top, hx, (hb hby own_d4_13), X28.method', Bd.returns, Value.isRef, FieldType.isReference]
      first | (intro acts; rw [hr _ acts rfl rfl rfl]) | rw [hr _ _ rfl rfl rfl]
      exact Steps.refl _
    · show QX Z a1 a2 mr w1 w2 h0 n0 _ T28.heap _
      rw [e28]
      exact ⟨a2, rfl, N28, rfl, (by rw [if_pos hc5])⟩
  · obtain ⟨fs, hr, hrun, hended, hW, hsame⟩ := X28.leave (v := some (.ref a1)) (fun h => by rw [Bd.returns] at h; cases h)
    refine ⟨_, _, pre29 _ ?_, hrun, hended, _, _, rfl, ?_, ⟨_, rfl⟩, hW, hsame.mono (by decide) (by decide)⟩
    · show Steps p.tables e below (T28.setTop (mkF m 5 #[.val (.ref a1), .val (.ref a2)] [(.int (w1 - w2))])) _
      refine XS.ifNo X28.here hx rfl (hb hby own_d4_5) rfl ((if0 _ _).trans (flt hc5).1) ?_
      show Steps p.tables e below (T28.setTop (mkF m 8 #[.val (.ref a1), .val (.ref a2)] [])) _
      refine XS.aloadN X28.here hx rfl (hb hby own_d4_8) rfl rfl ?_
      show Steps p.tables e below (T28.setTop (mkF m 9 #[.val (.ref a1), .val (.ref a2)] [(.ref a1)])) _
      refine XS.goto X28.here hx rfl (pc0 := 9) (pc' := 13) rfl (hb hby own_d4_9) (by decide) (by decide) ?_
      show Steps p.tables e below (T28.setTop (mkF m 13 #[.val (.ref a1), .val (.ref a2)] [(.ref a1)])) _
      jvm_step X28.here [X28.here.top, hx, (hb hby own_d4_13), X28.method', Bd.returns, Value.isRef, FieldType.isReference]
      first | (intro acts; rw [hr _ acts rfl rfl rfl]) | rw [hr _ _ rfl rfl rfl]
      exact Steps.refl _
    · show QX Z a1 a2 mr w1 w2 h0 n0 _ T28.heap _
      rw [e28]
      exact ⟨a1, rfl, N28, rfl, (by rw [if_neg hc5])⟩
theorem own_d6_0 : decode prog_27_method_6_code 0 = .ok (.aload_n 0, 1) := by decide +kernel
theorem own_d6_1 : decode prog_27_method_6_code 1 = .ok (.getstatic 19, 3) := by decide +kernel
theorem own_d6_4 : decode prog_27_method_6_code 4 = .ok (.invokevirtual 87, 3) := by decide +kernel
theorem own_d6_7 : decode prog_27_method_6_code 7 = .ok (.ifCond .lt 7, 3) := by decide +kernel
theorem own_d6_14 : decode prog_27_method_6_code 14 = .ok (.iconst 0, 1) := by decide +kernel
theorem own_d6_15 : decode prog_27_method_6_code 15 = .ok (.ireturn, 1) := by decide +kernel
theorem own_d6_10 : decode prog_27_method_6_code 10 = .ok (.iconst 1, 1) := by decide +kernel
theorem own_d6_11 : decode prog_27_method_6_code 11 = .ok (.goto 4, 3) := by decide +kernel
def own_f_rmBW (w1 : Int32) : Int32 := if (w1 - (5 : Int32)) < (0 : Int32) then (0 : Int32) else (1 : Int32)
theorem own_ef_rmBW (m : MethodId) (a1 : Addr) : entryFrame m #[(.ref a1)] 1 = mkF m 0 #[.val (.ref a1)] [] := by first | (simp [entryFrame, mkF, argsToLocals, Value.category]; done) | rfl
def QBW (Z : State) (a1 : Addr) (mr : Addr) (w1 : Int32) (o5 : Addr) (h0 : Heap) (n0 : Nat) (v : Option Value) (h : Heap) (L : List Loc) : Prop := v = some (.int (own_f_rmBW w1)) ∧ Fr n0 L ∧ h = h0
set_option maxRecDepth 65536 in
set_option maxHeartbeats 40000000 in
theorem rmBW (l : Launch) (Z : State) (a0 : Array Value) (hw : ∀ d ∈ tables_1, d.before a0 Z = true) (ws : List Jvm.Cond) (a1 : Addr) (mr : Addr) (w1 : Int32) (o5 : Addr) (h0 : Heap) (n0 : Nat) (Z0 : n0 ≤ h0.size) (E_a1 : Exa Z h0 a1 "com/example/alterlint/alterlint/model/LockMode") (F_a1_ordinal : Fld Z h0 a1 "java/lang/Enum" "ordinal" "I" (.int w1)) (S_SHARE : Sta Z h0 "com/example/alterlint/alterlint/model/LockMode" "SHARE" "Lcom/example/alterlint/alterlint/model/LockMode;" (.ref o5)) (E_o5 : Exa Z h0 o5 "com/example/alterlint/alterlint/model/LockMode") (F_o5_ordinal : Fld Z h0 o5 "java/lang/Enum" "ordinal" "I" (.int (5 : Int32))) (M : Mir Z "com/example/alterlint/alterlint/model/LockMode" mr) :
    MetFree l (⟨"com/example/alterlint/alterlint/model/LockMode", "blocksWrites", "()Z"⟩ : MethodName) (head1 (Jvm.Cond.code (⟨"com/example/alterlint/alterlint/model/LockMode", "blocksWrites", "()Z"⟩ : MethodName) prog_27_method_6_code 1 (some .boolean) :: ws) ({ frames := 2, cells := 0, slots := 0, locals := 31 } : Room)) (fun a U => a = #[(.ref a1)] ∧ Z.Warmed39 U.vm ∧ U.heap = h0) (fun _ _ _ _ _ => True) (fun _ U o U' => ∃ v L, o = .returned v ∧ QBW Z a1 mr w1 o5 h0 n0 v U'.heap L ∧ FrameEnd U o U' L ({ frames := 2, cells := 0, slots := 0, locals := 31 } : Room).cells ({ frames := 2, cells := 0, slots := 0, locals := 31 } : Room).slots) := by
  refine MetFree.of_bodySF (plainFor_of_name own_pn1) hisR ?_
  intro p e s m args below meth c s₁ Bd hml0 hP hK
  obtain ⟨rfl, hZ, hh⟩ := hP
  have hx := Bd.exec
  have hby := Bd.bytes
  have hml : c.maxLocals = 1 := hml0
  have hown : s.vm.findClass "com/example/alterlint/alterlint/model/LockMode" = some m.cls := findClass_of_methodNamed Bd.named
  have hnm := (name_of_methodNamed Bd.named Bd.method).1
  have X0 : Stand p l e ({ frames := 2, cells := 0, slots := 0, locals := 31 } : Room) s m #[(.ref a1)] below meth c s₁ [] 0 0 := Stand.of_body Bd
  have e0 : s₁.heap = h0 := by rw [← hh, Bd.state]; rfl
  have N0 := Fr.nil n0
  have K0 : Keep h0 h0 [] := Keep.refl h0 _
  have pre0 : ∀ t, Steps p.tables e below (s₁.setTop (mkF m 0 #[.val (.ref a1)] [])) t → Steps p.tables e below (s₁.setTop (entryFrame m #[(.ref a1)] 1)) t := fun t k => castTop (own_ef_rmBW m a1) k
  obtain ⟨T33, X33, e33, st33⟩ := getS2 X0 hx hZ hown (host := "") (Or.inl (hw _ (List.mem_of_getElem? (i := 56) rfl))) Via.refl e0 S_SHARE (g := (mkF m 1 #[.val (.ref a1)] [(.ref a1)])) rfl (hb hby own_d6_1)
  obtain ⟨cq34, kq34, q34a, q34b, q34c⟩ := isOf hZ e33 E_a1
  obtain ⟨_, _, ⟨T34, L34, k34, n34⟩, -, X34, ⟨Lc34, hQ34, l34, y34, z34⟩, st34⟩ := X33.virtualBackUp hx (x := (⟨"com/example/alterlint/alterlint/model/LockMode", "compareTo", "(Ljava/lang/Enum;)I"⟩ : MethodName)) (y := (⟨"java/lang/Enum", "compareTo", "(Ljava/lang/Enum;)I"⟩ : MethodName)) (owner := "java/lang/Enum") hown (mvT hZ (hw _ (List.mem_of_getElem? (i := 25) rfl))) (mvT hZ (hw _ (List.mem_of_getElem? (i := 26) rfl))) (mvT hZ (hw _ (List.mem_of_getElem? (i := 27) rfl))) (by decide) (mvT hZ (hw _ (List.mem_of_getElem? (i := 29) rfl))) (mvT hZ (hw _ (List.mem_of_getElem? (i := 28) rfl))) (backOf (W := 0) (rmC l Z a0 hw [] a1 o5 mr w1 (5 : Int32) h0 n0 (Nat.le_trans Z0 K0.1) E_a1 F_a1_ordinal E_o5 F_o5_ordinal M) hZ (hw _ (List.mem_of_getElem? (i := 31) rfl)) (hw _ (List.mem_of_getElem? (i := 30) rfl)) (by decide) (by decide)) q34a q34c (g := (mkF m 4 #[.val (.ref a1)] [(.ref o5), (.ref a1)])) rfl (by rw [hml]; rfl) (Steps.refl _) (argsL := [(.ref o5)]) (rest := []) (lenOf own_pd0 rfl) rfl (by show 2 * 0 + _ ≤ _; exact Nat.le_of_eq rfl) (hb hby own_d6_4) (fun _ _ => ⟨rfl, e33, (by decide : 0 + 0 ≤ _), (by decide : 0 + 0 ≤ _)⟩)
  dsimp only [Pt.U, Pt.locs, Pt.cells, Pt.slots] at X34 l34 y34 z34 st34 hQ34
  subst l34 y34 z34
  obtain ⟨rfl, N34q, e34⟩ := hQ34
  have N34 := Fr.app N0 N34q
  have pre35 : ∀ t, Steps p.tables e below (T34.setTop (mkF m 7 #[.val (.ref a1)] [(.int (w1 - (5 : Int32)))])) t → Steps p.tables e below (s₁.setTop (entryFrame m #[(.ref a1)] 1)) t := fun t k => by
    refine pre0 _ ?_
    show Steps p.tables e below (s₁.setTop (mkF m 0 #[.val (.ref a1)] [])) _
    refine XS.aloadN X0.here hx rfl (hb hby own_d6_0) rfl rfl ?_
    show Steps p.tables e below (s₁.setTop (mkF m 1 #[.val (.ref a1)] [(.ref a1)])) _
    refine st33 _ ?_
    show Steps p.tables e below (T33.setTop (mkF m 4 #[.val (.ref a1)] [(.ref o5), (.ref a1)])) _
    refine st34.trans ?_
    exact k
  by_cases hc7 : (w1 - (5 : Int32)) < (0 : Int32)
  · obtain ⟨fs, hr, hrun, hended, hW, hsame⟩ := X34.leave (v := some (.int (0 : Int32))) (fun h => by rw [Bd.returns] at h; cases h)
    refine ⟨_, _, pre35 _ ?_, hrun, hended, _, _, rfl, ?_, ⟨_, rfl⟩, hW, hsame.mono (by decide) (by decide)⟩
    · show Steps p.tables e below (T34.setTop (mkF m 7 #[.val (.ref a1)] [(.int (w1 - (5 : Int32)))])) _
      refine XS.ifYes X34.here hx rfl (pc0 := 7) (pc' := 14) rfl (hb hby own_d6_7) rfl ((if0 _ _).trans (tlt hc7).1) (by decide) (by decide) ?_
      show Steps p.tables e below (T34.setTop (mkF m 14 #[.val (.ref a1)] [])) _
      refine XS.iconst X34.here hx rfl (hb hby own_d6_14) ?_
      show Steps p.tables e below (T34.setTop (mkF m 15 #[.val (.ref a1)] [(.int (0 : Int32))])) _
      exact retN X34 hx (t := .boolean) Bd.returns (by simp) (hb hby own_d6_15) hr
    · show QBW Z a1 mr w1 o5 h0 n0 _ T34.heap _
      rw [e34]
      exact ⟨(congrArg (fun z => some (Value.int z)) (by unfold own_f_rmBW; rw [if_pos hc7] : (0 : Int32) = (own_f_rmBW w1))), N34, rfl⟩
  · obtain ⟨fs, hr, hrun, hended, hW, hsame⟩ := X34.leave (v := some (.int (1 : Int32))) (fun h => by rw [Bd.returns] at h; cases h)
    refine ⟨_, _, pre35 _ ?_, hrun, hended, _, _, rfl, ?_, ⟨_, rfl⟩, hW, hsame.mono (by decide) (by decide)⟩
    · show Steps p.tables e below (T34.setTop (mkF m 7 #[.val (.ref a1)] [(.int (w1 - (5 : Int32)))])) _
      refine XS.ifNo X34.here hx rfl (hb hby own_d6_7) rfl ((if0 _ _).trans (flt hc7).1) ?_
      show Steps p.tables e below (T34.setTop (mkF m 10 #[.val (.ref a1)] [])) _
      refine XS.iconst X34.here hx rfl (hb hby own_d6_10) ?_
      show Steps p.tables e below (T34.setTop (mkF m 11 #[.val (.ref a1)] [(.int (1 : Int32))])) _
      refine XS.goto X34.here hx rfl (pc0 := 11) (pc' := 15) rfl (hb hby own_d6_11) (by decide) (by decide) ?_
      show Steps p.tables e below (T34.setTop (mkF m 15 #[.val (.ref a1)] [(.int (1 : Int32))])) _
      exact retN X34 hx (t := .boolean) Bd.returns (by simp) (hb hby own_d6_15) hr
    · show QBW Z a1 mr w1 o5 h0 n0 _ T34.heap _
      rw [e34]
      exact ⟨(congrArg (fun z => some (Value.int z)) (by unfold own_f_rmBW; rw [if_neg hc7] : (1 : Int32) = (own_f_rmBW w1))), N34, rfl⟩
theorem own_k9 (x : Int32) : ((x &&& (2147483647 : Int32)) % (9 : Int32)) = (0 : Int32) ∨ ((x &&& (2147483647 : Int32)) % (9 : Int32)) = (1 : Int32) ∨ ((x &&& (2147483647 : Int32)) % (9 : Int32)) = (2 : Int32) ∨ ((x &&& (2147483647 : Int32)) % (9 : Int32)) = (3 : Int32) ∨ ((x &&& (2147483647 : Int32)) % (9 : Int32)) = (4 : Int32) ∨ ((x &&& (2147483647 : Int32)) % (9 : Int32)) = (5 : Int32) ∨ ((x &&& (2147483647 : Int32)) % (9 : Int32)) = (6 : Int32) ∨ ((x &&& (2147483647 : Int32)) % (9 : Int32)) = (7 : Int32) ∨ ((x &&& (2147483647 : Int32)) % (9 : Int32)) = (8 : Int32) := by
  have h1 := c_mask x 2147483647 31 (by decide) (by decide)
  have h2 := (c_irem (x &&& 2147483647) 9 9 (by decide)).1 (by omega)
  simp only [← Int32.toInt_inj]
  have e0 : (0 : Int32).toInt = 0 := by decide
  have e1 : (1 : Int32).toInt = 1 := by decide
  have e2 : (2 : Int32).toInt = 2 := by decide
  have e3 : (3 : Int32).toInt = 3 := by decide
  have e4 : (4 : Int32).toInt = 4 := by decide
  have e5 : (5 : Int32).toInt = 5 := by decide
  have e6 : (6 : Int32).toInt = 6 := by decide
  have e7 : (7 : Int32).toInt = 7 := by decide
  have e8 : (8 : Int32).toInt = 8 := by decide
  omega
theorem own_br (r o8 : Addr) (i : Int32) (h : r = o8 ↔ i = (8 : Int32)) : own_f_rmBR r o8 = own_f_rmK i := by
  unfold own_f_rmBR own_f_rmK
  by_cases q : r = o8
  · rw [if_pos q, if_pos (h.mp q)]
  · rw [if_neg q, if_neg (fun z => q (h.mpr z))]
theorem own_bw (r o8 : Addr) (i : Int32) (h : r = o8 ↔ i = (8 : Int32)) (q : ¬ own_f_rmBR r o8 = (0 : Int32)) : ¬ own_f_rmBW i = (0 : Int32) := by
  rw [own_br r o8 i h] at q
  unfold own_f_rmK at q
  by_cases z : i = (8 : Int32)
  · subst z; decide
  · rw [if_neg z] at q; exact absurd rfl q
theorem own_m1 (i j : Int32) (hi : i = (0 : Int32) ∨ i = (1 : Int32) ∨ i = (2 : Int32) ∨ i = (3 : Int32) ∨ i = (4 : Int32) ∨ i = (5 : Int32) ∨ i = (6 : Int32) ∨ i = (7 : Int32) ∨ i = (8 : Int32)) (hj : j = (0 : Int32) ∨ j = (1 : Int32) ∨ j = (2 : Int32) ∨ j = (3 : Int32) ∨ j = (4 : Int32) ∨ j = (5 : Int32) ∨ j = (6 : Int32) ∨ j = (7 : Int32) ∨ j = (8 : Int32)) (h : (i - j) < (0 : Int32)) : own_f_rmK i = (0 : Int32) := by
  rcases hi with rfl | rfl | rfl | rfl | rfl | rfl | rfl | rfl | rfl <;> rcases hj with rfl | rfl | rfl | rfl | rfl | rfl | rfl | rfl | rfl <;> first | decide | (exact absurd h (by decide))
theorem own_m2 (i j : Int32) (hi : i = (0 : Int32) ∨ i = (1 : Int32) ∨ i = (2 : Int32) ∨ i = (3 : Int32) ∨ i = (4 : Int32) ∨ i = (5 : Int32) ∨ i = (6 : Int32) ∨ i = (7 : Int32) ∨ i = (8 : Int32)) (hj : j = (0 : Int32) ∨ j = (1 : Int32) ∨ j = (2 : Int32) ∨ j = (3 : Int32) ∨ j = (4 : Int32) ∨ j = (5 : Int32) ∨ j = (6 : Int32) ∨ j = (7 : Int32) ∨ j = (8 : Int32)) (h : ¬ (i - j) < (0 : Int32)) (q : ¬ own_f_rmK j = (0 : Int32)) : ¬ own_f_rmK i = (0 : Int32) := by
  rcases hi with rfl | rfl | rfl | rfl | rfl | rfl | rfl | rfl | rfl <;> rcases hj with rfl | rfl | rfl | rfl | rfl | rfl | rfl | rfl | rfl <;> first | decide | (exact absurd q (by decide)) | (exact absurd (by decide) h)
theorem own_k1 (i : Int32) (h : ¬ own_f_rmK i = (0 : Int32)) : own_f_rmK i = (1 : Int32) := by
  unfold own_f_rmK at *
  by_cases z : i = (8 : Int32)
  · rw [if_pos z]
  · rw [if_neg z] at h; exact absurd rfl h
theorem own_pd1 : parseMethodDescriptor "(I)Lcom/example/alterlint/alterlint/model/LockMode;" = some ⟨[.int], some (.object "com/example/alterlint/alterlint/model/LockMode")⟩ := by decide +kernel
theorem own_pd2 : parseMethodDescriptor "()Z" = some ⟨[], some .boolean⟩ := by decide +kernel
theorem own_pd3 : parseMethodDescriptor "(I)Z" = some ⟨[.int], some .boolean⟩ := by decide +kernel
theorem own_pd4 : parseMethodDescriptor "(Lcom/example/alterlint/alterlint/model/LockMode;)Lcom/example/alterlint/alterlint/model/LockMode;" = some ⟨[(.object "com/example/alterlint/alterlint/model/LockMode")], some (.object "com/example/alterlint/alterlint/model/LockMode")⟩ := by decide +kernel
theorem own_ef_rm0 (m : MethodId) (p0 : Int32) (p1 : Int32) : entryFrame m #[(.int p0), (.int p1)] maxLocals = mkF m 0 #[.val (.int p0), .val (.int p1), .unset, .unset, .unset, .unset, .unset, .unset, .unset, .unset, .unset, .unset] [] := by first | (simp [entryFrame, mkF, argsToLocals, Value.category, maxLocals]; done) | rfl
def Q0 (Z : State) (p0 : Int32) (p1 : Int32) (o0 : Addr) (o1 : Addr) (o2 : Addr) (o3 : Addr) (o4 : Addr) (o5 : Addr) (o6 : Addr) (o7 : Addr) (o8 : Addr) (mr : Addr) (h0 : Heap) (n0 : Nat) (v : Option Value) (h : Heap) (L : List Loc) : Prop := v = some (.int (1 : Int32)) ∧ Fr n0 L
set_option maxRecDepth 65536 in
set_option maxHeartbeats 40000000 in
theorem rm0 (l : Launch) (Z : State) (a0 : Array Value) (hw : ∀ d ∈ tables_1, d.before a0 Z = true) (ws : List Jvm.Cond) (p0 : Int32) (p1 : Int32) (o0 : Addr) (o1 : Addr) (o2 : Addr) (o3 : Addr) (o4 : Addr) (o5 : Addr) (o6 : Addr) (o7 : Addr) (o8 : Addr) (mr : Addr) (h0 : Heap) (n0 : Nat) (Z0 : n0 ≤ h0.size) (S_NONE : Sta Z h0 "com/example/alterlint/alterlint/model/LockMode" "NONE" "Lcom/example/alterlint/alterlint/model/LockMode;" (.ref o0)) (E_o0 : Exa Z h0 o0 "com/example/alterlint/alterlint/model/LockMode") (F_o0_ordinal : Fld Z h0 o0 "java/lang/Enum" "ordinal" "I" (.int (0 : Int32))) (S_ACCESS_SHARE : Sta Z h0 "com/example/alterlint/alterlint/model/LockMode" "ACCESS_SHARE" "Lcom/example/alterlint/alterlint/model/LockMode;" (.ref o1)) (E_o1 : Exa Z h0 o1 "com/example/alterlint/alterlint/model/LockMode") (F_o1_ordinal : Fld Z h0 o1 "java/lang/Enum" "ordinal" "I" (.int (1 : Int32))) (S_ROW_SHARE : Sta Z h0 "com/example/alterlint/alterlint/model/LockMode" "ROW_SHARE" "Lcom/example/alterlint/alterlint/model/LockMode;" (.ref o2)) (E_o2 : Exa Z h0 o2 "com/example/alterlint/alterlint/model/LockMode") (F_o2_ordinal : Fld Z h0 o2 "java/lang/Enum" "ordinal" "I" (.int (2 : Int32))) (S_ROW_EXCLUSIVE : Sta Z h0 "com/example/alterlint/alterlint/model/LockMode" "ROW_EXCLUSIVE" "Lcom/example/alterlint/alterlint/model/LockMode;" (.ref o3)) (E_o3 : Exa Z h0 o3 "com/example/alterlint/alterlint/model/LockMode") (F_o3_ordinal : Fld Z h0 o3 "java/lang/Enum" "ordinal" "I" (.int (3 : Int32))) (S_SHARE_UPDATE_EXCLUSIVE : Sta Z h0 "com/example/alterlint/alterlint/model/LockMode" "SHARE_UPDATE_EXCLUSIVE" "Lcom/example/alterlint/alterlint/model/LockMode;" (.ref o4)) (E_o4 : Exa Z h0 o4 "com/example/alterlint/alterlint/model/LockMode") (F_o4_ordinal : Fld Z h0 o4 "java/lang/Enum" "ordinal" "I" (.int (4 : Int32))) (S_SHARE : Sta Z h0 "com/example/alterlint/alterlint/model/LockMode" "SHARE" "Lcom/example/alterlint/alterlint/model/LockMode;" (.ref o5)) (E_o5 : Exa Z h0 o5 "com/example/alterlint/alterlint/model/LockMode") (F_o5_ordinal : Fld Z h0 o5 "java/lang/Enum" "ordinal" "I" (.int (5 : Int32))) (S_SHARE_ROW_EXCLUSIVE : Sta Z h0 "com/example/alterlint/alterlint/model/LockMode" "SHARE_ROW_EXCLUSIVE" "Lcom/example/alterlint/alterlint/model/LockMode;" (.ref o6)) (E_o6 : Exa Z h0 o6 "com/example/alterlint/alterlint/model/LockMode") (F_o6_ordinal : Fld Z h0 o6 "java/lang/Enum" "ordinal" "I" (.int (6 : Int32))) (S_EXCLUSIVE : Sta Z h0 "com/example/alterlint/alterlint/model/LockMode" "EXCLUSIVE" "Lcom/example/alterlint/alterlint/model/LockMode;" (.ref o7)) (E_o7 : Exa Z h0 o7 "com/example/alterlint/alterlint/model/LockMode") (F_o7_ordinal : Fld Z h0 o7 "java/lang/Enum" "ordinal" "I" (.int (7 : Int32))) (S_ACCESS_EXCLUSIVE : Sta Z h0 "com/example/alterlint/alterlint/model/LockMode" "ACCESS_EXCLUSIVE" "Lcom/example/alterlint/alterlint/model/LockMode;" (.ref o8)) (E_o8 : Exa Z h0 o8 "com/example/alterlint/alterlint/model/LockMode") (F_o8_ordinal : Fld Z h0 o8 "java/lang/Enum" "ordinal" "I" (.int (8 : Int32))) (ne_o0_o8 : o0 ≠ o8) (ne_o1_o8 : o1 ≠ o8) (ne_o2_o8 : o2 ≠ o8) (ne_o3_o8 : o3 ≠ o8) (ne_o4_o8 : o4 ≠ o8) (ne_o5_o8 : o5 ≠ o8) (ne_o6_o8 : o6 ≠ o8) (ne_o7_o8 : o7 ≠ o8) (M : Mir Z "com/example/alterlint/alterlint/model/LockMode" mr) :
    MetFree l x (head1 (Jvm.Cond.code x code maxLocals ret :: ws) room_1) (fun a U => a = #[(.int p0), (.int p1)] ∧ Z.Warmed39 U.vm ∧ U.heap = h0) (fun _ _ _ _ _ => True) (fun _ U o U' => ∃ v L, o = .returned v ∧ Q0 Z p0 p1 o0 o1 o2 o3 o4 o5 o6 o7 o8 mr h0 n0 v U'.heap L ∧ FrameEnd U o U' L room_1.cells room_1.slots) := by
  refine MetFree.of_bodySF (plainFor_of_name own_pn0) hisR ?_
  intro p e s m args below meth c s₁ Bd hml0 hP hK
  obtain ⟨rfl, hZ, hh⟩ := hP
  have hx := Bd.exec
  have hby := Bd.bytes
  have hml : c.maxLocals = 12 := hml0
  have hown : s.vm.findClass "com/example/alterlint/alterlint/model/LockModeBlocksReadsPinLaw" = some m.cls := findClass_of_methodNamed Bd.named
  have hnm := (name_of_methodNamed Bd.named Bd.method).1
  have X0 : Stand p l e room_1 s m #[(.int p0), (.int p1)] below meth c s₁ [] 0 0 := Stand.of_body Bd
  have e0 : s₁.heap = h0 := by rw [← hh, Bd.state]; rfl
  have N0 := Fr.nil n0
  have K0 : Keep h0 h0 [] := Keep.refl h0 _
  have pre0 : ∀ t, Steps p.tables e below (s₁.setTop (mkF m 0 #[.val (.int p0), .val (.int p1), .unset, .unset, .unset, .unset, .unset, .unset, .unset, .unset, .unset, .unset] [])) t → Steps p.tables e below (s₁.setTop (entryFrame m #[(.int p0), (.int p1)] maxLocals)) t := fun t k => castTop (own_ef_rm0 m p0 p1) k
  obtain ⟨_, _, ⟨T36, L36, k36, n36⟩, -, X36, ⟨Lc36, hQ36, l36, y36, z36⟩, st36⟩ := Jvm.LawKit.callS X0 hx (y := (⟨"com/example/alterlint/alterlint/model/LockModeBlocksReadsPinLaw", "mode", "(I)Lcom/example/alterlint/alterlint/model/LockMode;"⟩ : MethodName)) hown (mvT hZ (hw _ (List.mem_of_getElem? (i := 1) rfl))) (mvT hZ (hw _ (List.mem_of_getElem? (i := 2) rfl))) (mvT hZ (hw _ (List.mem_of_getElem? (i := 3) rfl))) (mvT hZ (hw _ (List.mem_of_getElem? (i := 4) rfl))) (by decide) (backOf (W := 0) (rmM l Z a0 hw [] ((p0 &&& (2147483647 : Int32)) % (9 : Int32)) o0 o1 o2 o3 o4 o5 o6 o7 o8 h0 n0 (Nat.le_trans Z0 K0.1) S_NONE E_o0 F_o0_ordinal S_ACCESS_SHARE E_o1 F_o1_ordinal S_ROW_SHARE E_o2 F_o2_ordinal S_ROW_EXCLUSIVE E_o3 F_o3_ordinal S_SHARE_UPDATE_EXCLUSIVE E_o4 F_o4_ordinal S_SHARE E_o5 F_o5_ordinal S_SHARE_ROW_EXCLUSIVE E_o6 F_o6_ordinal S_EXCLUSIVE E_o7 F_o7_ordinal S_ACCESS_EXCLUSIVE E_o8 F_o8_ordinal ne_o0_o8 ne_o1_o8 ne_o2_o8 ne_o3_o8 ne_o4_o8 ne_o5_o8 ne_o6_o8 ne_o7_o8 (own_k9 p0)) hZ (hw _ (List.mem_of_getElem? (i := 4) rfl)) (hw _ (List.mem_of_getElem? (i := 3) rfl)) (by decide) (by decide)) (g := (mkF m 17 #[.val (.int p0), .val (.int p1), .val (.int ((p0 &&& (2147483647 : Int32)) % (9 : Int32))), .val (.int ((p1 &&& (2147483647 : Int32)) % (9 : Int32))), .unset, .unset, .unset, .unset, .unset, .unset, .unset, .unset] [(.int ((p0 &&& (2147483647 : Int32)) % (9 : Int32)))])) rfl (by rw [hml]; rfl) (argsL := [(.int ((p0 &&& (2147483647 : Int32)) % (9 : Int32)))]) (rest := []) (lenOf own_pd1 rfl) rfl (by show 2 * 0 + _ ≤ _; exact Nat.le_of_eq rfl) (hb hby at_17) (fun _ _ => ⟨rfl, e0, (by decide : 0 + 0 ≤ _), (by decide : 0 + 0 ≤ _)⟩)
  dsimp only [Pt.U, Pt.locs, Pt.cells, Pt.slots] at X36 l36 y36 z36 st36 hQ36
  subst l36 y36 z36
  obtain ⟨r_36, rfl, N36q, e36, i36_4, i36_5, i36_6⟩ := hQ36
  have N36 := Fr.app N0 N36q
  obtain ⟨_, _, ⟨T37, L37, k37, n37⟩, -, X37, ⟨Lc37, hQ37, l37, y37, z37⟩, st37⟩ := Jvm.LawKit.callS X36 hx (y := (⟨"com/example/alterlint/alterlint/model/LockModeBlocksReadsPinLaw", "mode", "(I)Lcom/example/alterlint/alterlint/model/LockMode;"⟩ : MethodName)) hown (mvT hZ (hw _ (List.mem_of_getElem? (i := 1) rfl))) (mvT hZ (hw _ (List.mem_of_getElem? (i := 2) rfl))) (mvT hZ (hw _ (List.mem_of_getElem? (i := 3) rfl))) (mvT hZ (hw _ (List.mem_of_getElem? (i := 4) rfl))) (by decide) (backOf (W := 0) (rmM l Z a0 hw [] ((p1 &&& (2147483647 : Int32)) % (9 : Int32)) o0 o1 o2 o3 o4 o5 o6 o7 o8 h0 n0 (Nat.le_trans Z0 K0.1) S_NONE E_o0 F_o0_ordinal S_ACCESS_SHARE E_o1 F_o1_ordinal S_ROW_SHARE E_o2 F_o2_ordinal S_ROW_EXCLUSIVE E_o3 F_o3_ordinal S_SHARE_UPDATE_EXCLUSIVE E_o4 F_o4_ordinal S_SHARE E_o5 F_o5_ordinal S_SHARE_ROW_EXCLUSIVE E_o6 F_o6_ordinal S_EXCLUSIVE E_o7 F_o7_ordinal S_ACCESS_EXCLUSIVE E_o8 F_o8_ordinal ne_o0_o8 ne_o1_o8 ne_o2_o8 ne_o3_o8 ne_o4_o8 ne_o5_o8 ne_o6_o8 ne_o7_o8 (own_k9 p1)) hZ (hw _ (List.mem_of_getElem? (i := 4) rfl)) (hw _ (List.mem_of_getElem? (i := 3) rfl)) (by decide) (by decide)) (g := (mkF m 23 #[.val (.int p0), .val (.int p1), .val (.int ((p0 &&& (2147483647 : Int32)) % (9 : Int32))), .val (.int ((p1 &&& (2147483647 : Int32)) % (9 : Int32))), .val (.ref r_36), .unset, .unset, .unset, .unset, .unset, .unset, .unset] [(.int ((p1 &&& (2147483647 : Int32)) % (9 : Int32)))])) rfl (by rw [hml]; rfl) (argsL := [(.int ((p1 &&& (2147483647 : Int32)) % (9 : Int32)))]) (rest := []) (lenOf own_pd1 rfl) rfl (by show 2 * 0 + _ ≤ _; exact Nat.le_of_eq rfl) (hb hby at_23) (fun _ _ => ⟨rfl, e36, (by decide : 0 + 0 ≤ _), (by decide : 0 + 0 ≤ _)⟩)
  dsimp only [Pt.U, Pt.locs, Pt.cells, Pt.slots] at X37 l37 y37 z37 st37 hQ37
  subst l37 y37 z37
  obtain ⟨r_37, rfl, N37q, e37, i37_4, i37_5, i37_6⟩ := hQ37
  have N37 := Fr.app N36 N37q
  obtain ⟨cq38, kq38, q38a, q38b, q38c⟩ := isOf hZ e37 i36_4
  obtain ⟨_, _, ⟨T38, L38, k38, n38⟩, -, X38, ⟨Lc38, hQ38, l38, y38, z38⟩, st38⟩ := X37.virtualBack hx (y := (⟨"com/example/alterlint/alterlint/model/LockMode", "blocksReads", "()Z"⟩ : MethodName)) (z := (⟨"com/example/alterlint/alterlint/model/LockMode", "blocksReads", "()Z"⟩ : MethodName)) hown (mvT hZ (hw _ (List.mem_of_getElem? (i := 10) rfl))) (mvT hZ (hw _ (List.mem_of_getElem? (i := 11) rfl))) (notFace_of_selects (args := #[]) (mvT hZ (hw _ (List.mem_of_getElem? (i := 13) rfl)))) (mvT hZ (hw _ (List.mem_of_getElem? (i := 13) rfl))) (mvT hZ (hw _ (List.mem_of_getElem? (i := 12) rfl))) (by decide) (backOf (W := 0) (rmBR l Z a0 hw [] r_36 o8 h0 n0 (Nat.le_trans Z0 K0.1) S_ACCESS_EXCLUSIVE) hZ (hw _ (List.mem_of_getElem? (i := 14) rfl)) (hw _ (List.mem_of_getElem? (i := 6) rfl)) (by decide) (by decide)) q38a q38c (g := (mkF m 30 #[.val (.int p0), .val (.int p1), .val (.int ((p0 &&& (2147483647 : Int32)) % (9 : Int32))), .val (.int ((p1 &&& (2147483647 : Int32)) % (9 : Int32))), .val (.ref r_36), .val (.ref r_37), .unset, .unset, .unset, .unset, .unset, .unset] [(.ref r_36)])) rfl (by rw [hml]; rfl) (Steps.refl _) (argsL := []) (rest := []) (lenOf own_pd2 rfl) rfl (by show 2 * 0 + _ ≤ _; exact Nat.le_of_eq rfl) (hb hby at_30) (fun _ _ => ⟨rfl, e37, (by decide : 0 + 0 ≤ _), (by decide : 0 + 0 ≤ _)⟩)
  dsimp only [Pt.U, Pt.locs, Pt.cells, Pt.slots] at X38 l38 y38 z38 st38 hQ38
  subst l38 y38 z38
  obtain ⟨rfl, N38q, e38⟩ := hQ38
  have N38 := Fr.app N37 N38q
  obtain ⟨cq39, kq39, q39a, q39b, q39c⟩ := isOf hZ e38 i37_4
  obtain ⟨_, _, ⟨T39, L39, k39, n39⟩, -, X39, ⟨Lc39, hQ39, l39, y39, z39⟩, st39⟩ := X38.virtualBack hx (y := (⟨"com/example/alterlint/alterlint/model/LockMode", "blocksReads", "()Z"⟩ : MethodName)) (z := (⟨"com/example/alterlint/alterlint/model/LockMode", "blocksReads", "()Z"⟩ : MethodName)) hown (mvT hZ (hw _ (List.mem_of_getElem? (i := 10) rfl))) (mvT hZ (hw _ (List.mem_of_getElem? (i := 11) rfl))) (notFace_of_selects (args := #[]) (mvT hZ (hw _ (List.mem_of_getElem? (i := 13) rfl)))) (mvT hZ (hw _ (List.mem_of_getElem? (i := 13) rfl))) (mvT hZ (hw _ (List.mem_of_getElem? (i := 12) rfl))) (by decide) (backOf (W := 0) (rmBR l Z a0 hw [] r_37 o8 h0 n0 (Nat.le_trans Z0 K0.1) S_ACCESS_EXCLUSIVE) hZ (hw _ (List.mem_of_getElem? (i := 14) rfl)) (hw _ (List.mem_of_getElem? (i := 6) rfl)) (by decide) (by decide)) q39a q39c (g := (mkF m 37 #[.val (.int p0), .val (.int p1), .val (.int ((p0 &&& (2147483647 : Int32)) % (9 : Int32))), .val (.int ((p1 &&& (2147483647 : Int32)) % (9 : Int32))), .val (.ref r_36), .val (.ref r_37), .val (.int (own_f_rmBR r_36 o8)), .unset, .unset, .unset, .unset, .unset] [(.ref r_37)])) rfl (by rw [hml]; rfl) (Steps.refl _) (argsL := []) (rest := []) (lenOf own_pd2 rfl) rfl (by show 2 * 0 + _ ≤ _; exact Nat.le_of_eq rfl) (hb hby at_37) (fun _ _ => ⟨rfl, e38, (by decide : 0 + 0 ≤ _), (by decide : 0 + 0 ≤ _)⟩)
  dsimp only [Pt.U, Pt.locs, Pt.cells, Pt.slots] at X39 l39 y39 z39 st39 hQ39
  subst l39 y39 z39
  obtain ⟨rfl, N39q, e39⟩ := hQ39
  have N39 := Fr.app N38 N39q
  obtain ⟨_, _, ⟨T40, L40, k40, n40⟩, -, X40, ⟨Lc40, hQ40, l40, y40, z40⟩, st40⟩ := Jvm.LawKit.callS X39 hx (y := (⟨"com/example/alterlint/alterlint/model/LockModeBlocksReadsPinLaw", "conflictsWithAccessShare", "(I)Z"⟩ : MethodName)) hown (mvT hZ (hw _ (List.mem_of_getElem? (i := 17) rfl))) (mvT hZ (hw _ (List.mem_of_getElem? (i := 18) rfl))) (mvT hZ (hw _ (List.mem_of_getElem? (i := 3) rfl))) (mvT hZ (hw _ (List.mem_of_getElem? (i := 19) rfl))) (by decide) (backOf (W := 0) (rmK l Z a0 hw [] ((p0 &&& (2147483647 : Int32)) % (9 : Int32)) h0 n0 (Nat.le_trans Z0 K0.1) ) hZ (hw _ (List.mem_of_getElem? (i := 19) rfl)) (hw _ (List.mem_of_getElem? (i := 3) rfl)) (by decide) (by decide)) (g := (mkF m 43 #[.val (.int p0), .val (.int p1), .val (.int ((p0 &&& (2147483647 : Int32)) % (9 : Int32))), .val (.int ((p1 &&& (2147483647 : Int32)) % (9 : Int32))), .val (.ref r_36), .val (.ref r_37), .val (.int (own_f_rmBR r_36 o8)), .val (.int (own_f_rmBR r_37 o8)), .unset, .unset, .unset, .unset] [(.int ((p0 &&& (2147483647 : Int32)) % (9 : Int32)))])) rfl (by rw [hml]; rfl) (argsL := [(.int ((p0 &&& (2147483647 : Int32)) % (9 : Int32)))]) (rest := []) (lenOf own_pd3 rfl) rfl (by show 2 * 0 + _ ≤ _; exact Nat.le_of_eq rfl) (hb hby at_43) (fun _ _ => ⟨rfl, e39, (by decide : 0 + 0 ≤ _), (by decide : 0 + 0 ≤ _)⟩)
  dsimp only [Pt.U, Pt.locs, Pt.cells, Pt.slots] at X40 l40 y40 z40 st40 hQ40
  subst l40 y40 z40
  obtain ⟨rfl, N40q, e40⟩ := hQ40
  have N40 := Fr.app N39 N40q
  obtain ⟨_, _, ⟨T41, L41, k41, n41⟩, -, X41, ⟨Lc41, hQ41, l41, y41, z41⟩, st41⟩ := Jvm.LawKit.callS X40 hx (y := (⟨"com/example/alterlint/alterlint/model/LockModeBlocksReadsPinLaw", "conflictsWithAccessShare", "(I)Z"⟩ : MethodName)) hown (mvT hZ (hw _ (List.mem_of_getElem? (i := 17) rfl))) (mvT hZ (hw _ (List.mem_of_getElem? (i := 18) rfl))) (mvT hZ (hw _ (List.mem_of_getElem? (i := 3) rfl))) (mvT hZ (hw _ (List.mem_of_getElem? (i := 19) rfl))) (by decide) (backOf (W := 0) (rmK l Z a0 hw [] ((p1 &&& (2147483647 : Int32)) % (9 : Int32)) h0 n0 (Nat.le_trans Z0 K0.1) ) hZ (hw _ (List.mem_of_getElem? (i := 19) rfl)) (hw _ (List.mem_of_getElem? (i := 3) rfl)) (by decide) (by decide)) (g := (mkF m 49 #[.val (.int p0), .val (.int p1), .val (.int ((p0 &&& (2147483647 : Int32)) % (9 : Int32))), .val (.int ((p1 &&& (2147483647 : Int32)) % (9 : Int32))), .val (.ref r_36), .val (.ref r_37), .val (.int (own_f_rmBR r_36 o8)), .val (.int (own_f_rmBR r_37 o8)), .val (.int (own_f_rmK ((p0 &&& (2147483647 : Int32)) % (9 : Int32)))), .unset, .unset, .unset] [(.int ((p1 &&& (2147483647 : Int32)) % (9 : Int32)))])) rfl (by rw [hml]; rfl) (argsL := [(.int ((p1 &&& (2147483647 : Int32)) % (9 : Int32)))]) (rest := []) (lenOf own_pd3 rfl) rfl (by show 2 * 0 + _ ≤ _; exact Nat.le_of_eq rfl) (hb hby at_49) (fun _ _ => ⟨rfl, e40, (by decide : 0 + 0 ≤ _), (by decide : 0 + 0 ≤ _)⟩)
  dsimp only [Pt.U, Pt.locs, Pt.cells, Pt.slots] at X41 l41 y41 z41 st41 hQ41
  subst l41 y41 z41
  obtain ⟨rfl, N41q, e41⟩ := hQ41
  have N41 := Fr.app N40 N41q
  obtain ⟨cq42, kq42, q42a, q42b, q42c⟩ := isOf hZ e41 i36_4
  obtain ⟨_, _, ⟨T42, L42, k42, n42⟩, -, X42, ⟨Lc42, hQ42, l42, y42, z42⟩, st42⟩ := X41.virtualBack hx (y := (⟨"com/example/alterlint/alterlint/model/LockMode", "max", "(Lcom/example/alterlint/alterlint/model/LockMode;)Lcom/example/alterlint/alterlint/model/LockMode;"⟩ : MethodName)) (z := (⟨"com/example/alterlint/alterlint/model/LockMode", "max", "(Lcom/example/alterlint/alterlint/model/LockMode;)Lcom/example/alterlint/alterlint/model/LockMode;"⟩ : MethodName)) hown (mvT hZ (hw _ (List.mem_of_getElem? (i := 20) rfl))) (mvT hZ (hw _ (List.mem_of_getElem? (i := 21) rfl))) (notFace_of_selects (args := #[]) (mvT hZ (hw _ (List.mem_of_getElem? (i := 23) rfl)))) (mvT hZ (hw _ (List.mem_of_getElem? (i := 23) rfl))) (mvT hZ (hw _ (List.mem_of_getElem? (i := 22) rfl))) (by decide) (backOf (W := 0) (rmX l Z a0 hw [] r_36 r_37 mr ((p0 &&& (2147483647 : Int32)) % (9 : Int32)) ((p1 &&& (2147483647 : Int32)) % (9 : Int32)) h0 n0 (Nat.le_trans Z0 K0.1) i36_4 i36_5 i37_4 i37_5 M) hZ (hw _ (List.mem_of_getElem? (i := 24) rfl)) (hw _ (List.mem_of_getElem? (i := 6) rfl)) (by decide) (by decide)) q42a q42c (g := (mkF m 58 #[.val (.int p0), .val (.int p1), .val (.int ((p0 &&& (2147483647 : Int32)) % (9 : Int32))), .val (.int ((p1 &&& (2147483647 : Int32)) % (9 : Int32))), .val (.ref r_36), .val (.ref r_37), .val (.int (own_f_rmBR r_36 o8)), .val (.int (own_f_rmBR r_37 o8)), .val (.int (own_f_rmK ((p0 &&& (2147483647 : Int32)) % (9 : Int32)))), .val (.int (own_f_rmK ((p1 &&& (2147483647 : Int32)) % (9 : Int32)))), .unset, .unset] [(.ref r_37), (.ref r_36)])) rfl (by rw [hml]; rfl) (Steps.refl _) (argsL := [(.ref r_37)]) (rest := []) (lenOf own_pd4 rfl) rfl (by show 2 * 0 + _ ≤ _; exact Nat.le_of_eq rfl) (hb hby at_58) (fun _ _ => ⟨rfl, e41, (by decide : 0 + 0 ≤ _), (by decide : 0 + 0 ≤ _)⟩)
  dsimp only [Pt.U, Pt.locs, Pt.cells, Pt.slots] at X42 l42 y42 z42 st42 hQ42
  subst l42 y42 z42
  obtain ⟨r_42, rfl, N42q, e42, i42_4⟩ := hQ42
  have N42 := Fr.app N41 N42q
  have pre43 : ∀ t, Steps p.tables e below (T42.setTop (mkF m 61 #[.val (.int p0), .val (.int p1), .val (.int ((p0 &&& (2147483647 : Int32)) % (9 : Int32))), .val (.int ((p1 &&& (2147483647 : Int32)) % (9 : Int32))), .val (.ref r_36), .val (.ref r_37), .val (.int (own_f_rmBR r_36 o8)), .val (.int (own_f_rmBR r_37 o8)), .val (.int (own_f_rmK ((p0 &&& (2147483647 : Int32)) % (9 : Int32)))), .val (.int (own_f_rmK ((p1 &&& (2147483647 : Int32)) % (9 : Int32)))), .unset, .unset] [(.ref r_42)])) t → Steps p.tables e below (s₁.setTop (entryFrame m #[(.int p0), (.int p1)] maxLocals)) t := fun t k => by
    refine pre0 _ ?_
    show Steps p.tables e below (s₁.setTop (mkF m 0 #[.val (.int p0), .val (.int p1), .unset, .unset, .unset, .unset, .unset, .unset, .unset, .unset, .unset, .unset] [])) _
    refine XS.iloadN X0.here hx rfl (hb hby at_0) rfl ?_
    show Steps p.tables e below (s₁.setTop (mkF m 1 #[.val (.int p0), .val (.int p1), .unset, .unset, .unset, .unset, .unset, .unset, .unset, .unset, .unset, .unset] [(.int p0)])) _
    refine X0.ldcInt hx hown (mvT hZ (hw _ (List.mem_of_getElem? (i := 0) rfl))) (g := (mkF m 1 #[.val (.int p0), .val (.int p1), .unset, .unset, .unset, .unset, .unset, .unset, .unset, .unset, .unset, .unset] [(.int p0)])) rfl (hb hby at_1) _ ?_
    show Steps p.tables e below (s₁.setTop (mkF m 3 #[.val (.int p0), .val (.int p1), .unset, .unset, .unset, .unset, .unset, .unset, .unset, .unset, .unset, .unset] [(.int (2147483647 : Int32)), (.int p0)])) _
    refine XS.iand X0.here hx rfl (hb hby at_3) rfl ?_
    show Steps p.tables e below (s₁.setTop (mkF m 4 #[.val (.int p0), .val (.int p1), .unset, .unset, .unset, .unset, .unset, .unset, .unset, .unset, .unset, .unset] [(.int (p0 &&& (2147483647 : Int32)))])) _
    refine XS.bipush X0.here hx rfl (hb hby at_4) ?_
    show Steps p.tables e below (s₁.setTop (mkF m 6 #[.val (.int p0), .val (.int p1), .unset, .unset, .unset, .unset, .unset, .unset, .unset, .unset, .unset, .unset] [(.int (9 : Int32)), (.int (p0 &&& (2147483647 : Int32)))])) _
    refine iremM (g := (mkF m 6 #[.val (.int p0), .val (.int p1), .unset, .unset, .unset, .unset, .unset, .unset, .unset, .unset, .unset, .unset] [(.int (9 : Int32)), (.int (p0 &&& (2147483647 : Int32)))])) X0 hx rfl (hb hby at_6) rfl (by decide) ?_
    show Steps p.tables e below (s₁.setTop (mkF m 7 #[.val (.int p0), .val (.int p1), .unset, .unset, .unset, .unset, .unset, .unset, .unset, .unset, .unset, .unset] [(.int ((p0 &&& (2147483647 : Int32)) % (9 : Int32)))])) _
    refine XS.istoreN X0.here hx rfl (hb hby at_7) rfl (l' := #[.val (.int p0), .val (.int p1), .val (.int ((p0 &&& (2147483647 : Int32)) % (9 : Int32))), .unset, .unset, .unset, .unset, .unset, .unset, .unset, .unset, .unset]) rfl ?_
    show Steps p.tables e below (s₁.setTop (mkF m 8 #[.val (.int p0), .val (.int p1), .val (.int ((p0 &&& (2147483647 : Int32)) % (9 : Int32))), .unset, .unset, .unset, .unset, .unset, .unset, .unset, .unset, .unset] [])) _
    refine XS.iloadN X0.here hx rfl (hb hby at_8) rfl ?_
    show Steps p.tables e below (s₁.setTop (mkF m 9 #[.val (.int p0), .val (.int p1), .val (.int ((p0 &&& (2147483647 : Int32)) % (9 : Int32))), .unset, .unset, .unset, .unset, .unset, .unset, .unset, .unset, .unset] [(.int p1)])) _
    refine X0.ldcInt hx hown (mvT hZ (hw _ (List.mem_of_getElem? (i := 0) rfl))) (g := (mkF m 9 #[.val (.int p0), .val (.int p1), .val (.int ((p0 &&& (2147483647 : Int32)) % (9 : Int32))), .unset, .unset, .unset, .unset, .unset, .unset, .unset, .unset, .unset] [(.int p1)])) rfl (hb hby at_9) _ ?_
    show Steps p.tables e below (s₁.setTop (mkF m 11 #[.val (.int p0), .val (.int p1), .val (.int ((p0 &&& (2147483647 : Int32)) % (9 : Int32))), .unset, .unset, .unset, .unset, .unset, .unset, .unset, .unset, .unset] [(.int (2147483647 : Int32)), (.int p1)])) _
    refine XS.iand X0.here hx rfl (hb hby at_11) rfl ?_
    show Steps p.tables e below (s₁.setTop (mkF m 12 #[.val (.int p0), .val (.int p1), .val (.int ((p0 &&& (2147483647 : Int32)) % (9 : Int32))), .unset, .unset, .unset, .unset, .unset, .unset, .unset, .unset, .unset] [(.int (p1 &&& (2147483647 : Int32)))])) _
    refine XS.bipush X0.here hx rfl (hb hby at_12) ?_
    show Steps p.tables e below (s₁.setTop (mkF m 14 #[.val (.int p0), .val (.int p1), .val (.int ((p0 &&& (2147483647 : Int32)) % (9 : Int32))), .unset, .unset, .unset, .unset, .unset, .unset, .unset, .unset, .unset] [(.int (9 : Int32)), (.int (p1 &&& (2147483647 : Int32)))])) _
    refine iremM (g := (mkF m 14 #[.val (.int p0), .val (.int p1), .val (.int ((p0 &&& (2147483647 : Int32)) % (9 : Int32))), .unset, .unset, .unset, .unset, .unset, .unset, .unset, .unset, .unset] [(.int (9 : Int32)), (.int (p1 &&& (2147483647 : Int32)))])) X0 hx rfl (hb hby at_14) rfl (by decide) ?_
    show Steps p.tables e below (s₁.setTop (mkF m 15 #[.val (.int p0), .val (.int p1), .val (.int ((p0 &&& (2147483647 : Int32)) % (9 : Int32))), .unset, .unset, .unset, .unset, .unset, .unset, .unset, .unset, .unset] [(.int ((p1 &&& (2147483647 : Int32)) % (9 : Int32)))])) _
    refine XS.istoreN X0.here hx rfl (hb hby at_15) rfl (l' := #[.val (.int p0), .val (.int p1), .val (.int ((p0 &&& (2147483647 : Int32)) % (9 : Int32))), .val (.int ((p1 &&& (2147483647 : Int32)) % (9 : Int32))), .unset, .unset, .unset, .unset, .unset, .unset, .unset, .unset]) rfl ?_
    show Steps p.tables e below (s₁.setTop (mkF m 16 #[.val (.int p0), .val (.int p1), .val (.int ((p0 &&& (2147483647 : Int32)) % (9 : Int32))), .val (.int ((p1 &&& (2147483647 : Int32)) % (9 : Int32))), .unset, .unset, .unset, .unset, .unset, .unset, .unset, .unset] [])) _
    refine XS.iloadN X0.here hx rfl (hb hby at_16) rfl ?_
    show Steps p.tables e below (s₁.setTop (mkF m 17 #[.val (.int p0), .val (.int p1), .val (.int ((p0 &&& (2147483647 : Int32)) % (9 : Int32))), .val (.int ((p1 &&& (2147483647 : Int32)) % (9 : Int32))), .unset, .unset, .unset, .unset, .unset, .unset, .unset, .unset] [(.int ((p0 &&& (2147483647 : Int32)) % (9 : Int32)))])) _
    refine st36 _ ?_
    show Steps p.tables e below (T36.setTop (mkF m 20 #[.val (.int p0), .val (.int p1), .val (.int ((p0 &&& (2147483647 : Int32)) % (9 : Int32))), .val (.int ((p1 &&& (2147483647 : Int32)) % (9 : Int32))), .unset, .unset, .unset, .unset, .unset, .unset, .unset, .unset] [(.ref r_36)])) _
    refine XS.astore X36.here hx rfl (hb hby at_20) rfl rfl (l' := #[.val (.int p0), .val (.int p1), .val (.int ((p0 &&& (2147483647 : Int32)) % (9 : Int32))), .val (.int ((p1 &&& (2147483647 : Int32)) % (9 : Int32))), .val (.ref r_36), .unset, .unset, .unset, .unset, .unset, .unset, .unset]) rfl ?_
    show Steps p.tables e below (T36.setTop (mkF m 22 #[.val (.int p0), .val (.int p1), .val (.int ((p0 &&& (2147483647 : Int32)) % (9 : Int32))), .val (.int ((p1 &&& (2147483647 : Int32)) % (9 : Int32))), .val (.ref r_36), .unset, .unset, .unset, .unset, .unset, .unset, .unset] [])) _
    refine XS.iloadN X36.here hx rfl (hb hby at_22) rfl ?_
    show Steps p.tables e below (T36.setTop (mkF m 23 #[.val (.int p0), .val (.int p1), .val (.int ((p0 &&& (2147483647 : Int32)) % (9 : Int32))), .val (.int ((p1 &&& (2147483647 : Int32)) % (9 : Int32))), .val (.ref r_36), .unset, .unset, .unset, .unset, .unset, .unset, .unset] [(.int ((p1 &&& (2147483647 : Int32)) % (9 : Int32)))])) _
    refine st37 _ ?_
    show Steps p.tables e below (T37.setTop (mkF m 26 #[.val (.int p0), .val (.int p1), .val (.int ((p0 &&& (2147483647 : Int32)) % (9 : Int32))), .val (.int ((p1 &&& (2147483647 : Int32)) % (9 : Int32))), .val (.ref r_36), .unset, .unset, .unset, .unset, .unset, .unset, .unset] [(.ref r_37)])) _
    refine XS.astore X37.here hx rfl (hb hby at_26) rfl rfl (l' := #[.val (.int p0), .val (.int p1), .val (.int ((p0 &&& (2147483647 : Int32)) % (9 : Int32))), .val (.int ((p1 &&& (2147483647 : Int32)) % (9 : Int32))), .val (.ref r_36), .val (.ref r_37), .unset, .unset, .unset, .unset, .unset, .unset]) rfl ?_
    show Steps p.tables e below (T37.setTop (mkF m 28 #[.val (.int p0), .val (.int p1), .val (.int ((p0 &&& (2147483647 : Int32)) % (9 : Int32))), .val (.int ((p1 &&& (2147483647 : Int32)) % (9 : Int32))), .val (.ref r_36), .val (.ref r_37), .unset, .unset, .unset, .unset, .unset, .unset] [])) _
    refine XS.aload X37.here hx rfl (hb hby at_28) rfl rfl ?_
    show Steps p.tables e below (T37.setTop (mkF m 30 #[.val (.int p0), .val (.int p1), .val (.int ((p0 &&& (2147483647 : Int32)) % (9 : Int32))), .val (.int ((p1 &&& (2147483647 : Int32)) % (9 : Int32))), .val (.ref r_36), .val (.ref r_37), .unset, .unset, .unset, .unset, .unset, .unset] [(.ref r_36)])) _
    refine st38.trans ?_
    show Steps p.tables e below (T38.setTop (mkF m 33 #[.val (.int p0), .val (.int p1), .val (.int ((p0 &&& (2147483647 : Int32)) % (9 : Int32))), .val (.int ((p1 &&& (2147483647 : Int32)) % (9 : Int32))), .val (.ref r_36), .val (.ref r_37), .unset, .unset, .unset, .unset, .unset, .unset] [(.int (own_f_rmBR r_36 o8))])) _
    refine XS.istore X38.here hx rfl (hb hby at_33) rfl (l' := #[.val (.int p0), .val (.int p1), .val (.int ((p0 &&& (2147483647 : Int32)) % (9 : Int32))), .val (.int ((p1 &&& (2147483647 : Int32)) % (9 : Int32))), .val (.ref r_36), .val (.ref r_37), .val (.int (own_f_rmBR r_36 o8)), .unset, .unset, .unset, .unset, .unset]) rfl ?_
    show Steps p.tables e below (T38.setTop (mkF m 35 #[.val (.int p0), .val (.int p1), .val (.int ((p0 &&& (2147483647 : Int32)) % (9 : Int32))), .val (.int ((p1 &&& (2147483647 : Int32)) % (9 : Int32))), .val (.ref r_36), .val (.ref r_37), .val (.int (own_f_rmBR r_36 o8)), .unset, .unset, .unset, .unset, .unset] [])) _
    refine XS.aload X38.here hx rfl (hb hby at_35) rfl rfl ?_
    show Steps p.tables e below (T38.setTop (mkF m 37 #[.val (.int p0), .val (.int p1), .val (.int ((p0 &&& (2147483647 : Int32)) % (9 : Int32))), .val (.int ((p1 &&& (2147483647 : Int32)) % (9 : Int32))), .val (.ref r_36), .val (.ref r_37), .val (.int (own_f_rmBR r_36 o8)), .unset, .unset, .unset, .unset, .unset] [(.ref r_37)])) _
    refine st39.trans ?_
    show Steps p.tables e below (T39.setTop (mkF m 40 #[.val (.int p0), .val (.int p1), .val (.int ((p0 &&& (2147483647 : Int32)) % (9 : Int32))), .val (.int ((p1 &&& (2147483647 : Int32)) % (9 : Int32))), .val (.ref r_36), .val (.ref r_37), .val (.int (own_f_rmBR r_36 o8)), .unset, .unset, .unset, .unset, .unset] [(.int (own_f_rmBR r_37 o8))])) _
    refine XS.istore X39.here hx rfl (hb hby at_40) rfl (l' := #[.val (.int p0), .val (.int p1), .val (.int ((p0 &&& (2147483647 : Int32)) % (9 : Int32))), .val (.int ((p1 &&& (2147483647 : Int32)) % (9 : Int32))), .val (.ref r_36), .val (.ref r_37), .val (.int (own_f_rmBR r_36 o8)), .val (.int (own_f_rmBR r_37 o8)), .unset, .unset, .unset, .unset]) rfl ?_
    show Steps p.tables e below (T39.setTop (mkF m 42 #[.val (.int p0), .val (.int p1), .val (.int ((p0 &&& (2147483647 : Int32)) % (9 : Int32))), .val (.int ((p1 &&& (2147483647 : Int32)) % (9 : Int32))), .val (.ref r_36), .val (.ref r_37), .val (.int (own_f_rmBR r_36 o8)), .val (.int (own_f_rmBR r_37 o8)), .unset, .unset, .unset, .unset] [])) _
    refine XS.iloadN X39.here hx rfl (hb hby at_42) rfl ?_
    show Steps p.tables e below (T39.setTop (mkF m 43 #[.val (.int p0), .val (.int p1), .val (.int ((p0 &&& (2147483647 : Int32)) % (9 : Int32))), .val (.int ((p1 &&& (2147483647 : Int32)) % (9 : Int32))), .val (.ref r_36), .val (.ref r_37), .val (.int (own_f_rmBR r_36 o8)), .val (.int (own_f_rmBR r_37 o8)), .unset, .unset, .unset, .unset] [(.int ((p0 &&& (2147483647 : Int32)) % (9 : Int32)))])) _
    refine st40 _ ?_
    show Steps p.tables e below (T40.setTop (mkF m 46 #[.val (.int p0), .val (.int p1), .val (.int ((p0 &&& (2147483647 : Int32)) % (9 : Int32))), .val (.int ((p1 &&& (2147483647 : Int32)) % (9 : Int32))), .val (.ref r_36), .val (.ref r_37), .val (.int (own_f_rmBR r_36 o8)), .val (.int (own_f_rmBR r_37 o8)), .unset, .unset, .unset, .unset] [(.int (own_f_rmK ((p0 &&& (2147483647 : Int32)) % (9 : Int32))))])) _
    refine XS.istore X40.here hx rfl (hb hby at_46) rfl (l' := #[.val (.int p0), .val (.int p1), .val (.int ((p0 &&& (2147483647 : Int32)) % (9 : Int32))), .val (.int ((p1 &&& (2147483647 : Int32)) % (9 : Int32))), .val (.ref r_36), .val (.ref r_37), .val (.int (own_f_rmBR r_36 o8)), .val (.int (own_f_rmBR r_37 o8)), .val (.int (own_f_rmK ((p0 &&& (2147483647 : Int32)) % (9 : Int32)))), .unset, .unset, .unset]) rfl ?_
    show Steps p.tables e below (T40.setTop (mkF m 48 #[.val (.int p0), .val (.int p1), .val (.int ((p0 &&& (2147483647 : Int32)) % (9 : Int32))), .val (.int ((p1 &&& (2147483647 : Int32)) % (9 : Int32))), .val (.ref r_36), .val (.ref r_37), .val (.int (own_f_rmBR r_36 o8)), .val (.int (own_f_rmBR r_37 o8)), .val (.int (own_f_rmK ((p0 &&& (2147483647 : Int32)) % (9 : Int32)))), .unset, .unset, .unset] [])) _
    refine XS.iloadN X40.here hx rfl (hb hby at_48) rfl ?_
    show Steps p.tables e below (T40.setTop (mkF m 49 #[.val (.int p0), .val (.int p1), .val (.int ((p0 &&& (2147483647 : Int32)) % (9 : Int32))), .val (.int ((p1 &&& (2147483647 : Int32)) % (9 : Int32))), .val (.ref r_36), .val (.ref r_37), .val (.int (own_f_rmBR r_36 o8)), .val (.int (own_f_rmBR r_37 o8)), .val (.int (own_f_rmK ((p0 &&& (2147483647 : Int32)) % (9 : Int32)))), .unset, .unset, .unset] [(.int ((p1 &&& (2147483647 : Int32)) % (9 : Int32)))])) _
    refine st41 _ ?_
    show Steps p.tables e below (T41.setTop (mkF m 52 #[.val (.int p0), .val (.int p1), .val (.int ((p0 &&& (2147483647 : Int32)) % (9 : Int32))), .val (.int ((p1 &&& (2147483647 : Int32)) % (9 : Int32))), .val (.ref r_36), .val (.ref r_37), .val (.int (own_f_rmBR r_36 o8)), .val (.int (own_f_rmBR r_37 o8)), .val (.int (own_f_rmK ((p0 &&& (2147483647 : Int32)) % (9 : Int32)))), .unset, .unset, .unset] [(.int (own_f_rmK ((p1 &&& (2147483647 : Int32)) % (9 : Int32))))])) _
    refine XS.istore X41.here hx rfl (hb hby at_52) rfl (l' := #[.val (.int p0), .val (.int p1), .val (.int ((p0 &&& (2147483647 : Int32)) % (9 : Int32))), .val (.int ((p1 &&& (2147483647 : Int32)) % (9 : Int32))), .val (.ref r_36), .val (.ref r_37), .val (.int (own_f_rmBR r_36 o8)), .val (.int (own_f_rmBR r_37 o8)), .val (.int (own_f_rmK ((p0 &&& (2147483647 : Int32)) % (9 : Int32)))), .val (.int (own_f_rmK ((p1 &&& (2147483647 : Int32)) % (9 : Int32)))), .unset, .unset]) rfl ?_
    show Steps p.tables e below (T41.setTop (mkF m 54 #[.val (.int p0), .val (.int p1), .val (.int ((p0 &&& (2147483647 : Int32)) % (9 : Int32))), .val (.int ((p1 &&& (2147483647 : Int32)) % (9 : Int32))), .val (.ref r_36), .val (.ref r_37), .val (.int (own_f_rmBR r_36 o8)), .val (.int (own_f_rmBR r_37 o8)), .val (.int (own_f_rmK ((p0 &&& (2147483647 : Int32)) % (9 : Int32)))), .val (.int (own_f_rmK ((p1 &&& (2147483647 : Int32)) % (9 : Int32)))), .unset, .unset] [])) _
    refine XS.aload X41.here hx rfl (hb hby at_54) rfl rfl ?_
    show Steps p.tables e below (T41.setTop (mkF m 56 #[.val (.int p0), .val (.int p1), .val (.int ((p0 &&& (2147483647 : Int32)) % (9 : Int32))), .val (.int ((p1 &&& (2147483647 : Int32)) % (9 : Int32))), .val (.ref r_36), .val (.ref r_37), .val (.int (own_f_rmBR r_36 o8)), .val (.int (own_f_rmBR r_37 o8)), .val (.int (own_f_rmK ((p0 &&& (2147483647 : Int32)) % (9 : Int32)))), .val (.int (own_f_rmK ((p1 &&& (2147483647 : Int32)) % (9 : Int32)))), .unset, .unset] [(.ref r_36)])) _
    refine XS.aload X41.here hx rfl (hb hby at_56) rfl rfl ?_
    show Steps p.tables e below (T41.setTop (mkF m 58 #[.val (.int p0), .val (.int p1), .val (.int ((p0 &&& (2147483647 : Int32)) % (9 : Int32))), .val (.int ((p1 &&& (2147483647 : Int32)) % (9 : Int32))), .val (.ref r_36), .val (.ref r_37), .val (.int (own_f_rmBR r_36 o8)), .val (.int (own_f_rmBR r_37 o8)), .val (.int (own_f_rmK ((p0 &&& (2147483647 : Int32)) % (9 : Int32)))), .val (.int (own_f_rmK ((p1 &&& (2147483647 : Int32)) % (9 : Int32)))), .unset, .unset] [(.ref r_37), (.ref r_36)])) _
    refine st42.trans ?_
    exact k
  by_cases hm : (((p0 &&& (2147483647 : Int32)) % (9 : Int32)) - ((p1 &&& (2147483647 : Int32)) % (9 : Int32))) < (0 : Int32)
  · have er : r_42 = r_37 := i42_4.trans (if_pos hm)
    obtain ⟨cq44, kq44, q44a, q44b, q44c⟩ := isOf hZ e42 i37_4
    obtain ⟨_, _, ⟨T44, L44, k44, n44⟩, -, X44, ⟨Lc44, hQ44, l44, y44, z44⟩, st44⟩ := X42.virtualBack hx (y := (⟨"com/example/alterlint/alterlint/model/LockMode", "blocksReads", "()Z"⟩ : MethodName)) (z := (⟨"com/example/alterlint/alterlint/model/LockMode", "blocksReads", "()Z"⟩ : MethodName)) hown (mvT hZ (hw _ (List.mem_of_getElem? (i := 10) rfl))) (mvT hZ (hw _ (List.mem_of_getElem? (i := 11) rfl))) (notFace_of_selects (args := #[]) (mvT hZ (hw _ (List.mem_of_getElem? (i := 13) rfl)))) (mvT hZ (hw _ (List.mem_of_getElem? (i := 13) rfl))) (mvT hZ (hw _ (List.mem_of_getElem? (i := 12) rfl))) (by decide) (backOf (W := 0) (rmBR l Z a0 hw [] r_37 o8 h0 n0 (Nat.le_trans Z0 K0.1) S_ACCESS_EXCLUSIVE) hZ (hw _ (List.mem_of_getElem? (i := 14) rfl)) (hw _ (List.mem_of_getElem? (i := 6) rfl)) (by decide) (by decide)) q44a q44c (g := (mkF m 61 #[.val (.int p0), .val (.int p1), .val (.int ((p0 &&& (2147483647 : Int32)) % (9 : Int32))), .val (.int ((p1 &&& (2147483647 : Int32)) % (9 : Int32))), .val (.ref r_36), .val (.ref r_37), .val (.int (own_f_rmBR r_36 o8)), .val (.int (own_f_rmBR r_37 o8)), .val (.int (own_f_rmK ((p0 &&& (2147483647 : Int32)) % (9 : Int32)))), .val (.int (own_f_rmK ((p1 &&& (2147483647 : Int32)) % (9 : Int32)))), .unset, .unset] [(.ref r_37)])) rfl (by rw [hml]; rfl) (Steps.refl _) (argsL := []) (rest := []) (lenOf own_pd2 rfl) rfl (by show 2 * 0 + _ ≤ _; exact Nat.le_of_eq rfl) (hb hby at_61) (fun _ _ => ⟨rfl, e42, (by decide : 0 + 0 ≤ _), (by decide : 0 + 0 ≤ _)⟩)
    dsimp only [Pt.U, Pt.locs, Pt.cells, Pt.slots] at X44 l44 y44 z44 st44 hQ44
    subst l44 y44 z44
    obtain ⟨rfl, N44q, e44⟩ := hQ44
    have N44 := Fr.app N42 N44q
    have pre45 : ∀ t, Steps p.tables e below (T44.setTop (mkF m 68 #[.val (.int p0), .val (.int p1), .val (.int ((p0 &&& (2147483647 : Int32)) % (9 : Int32))), .val (.int ((p1 &&& (2147483647 : Int32)) % (9 : Int32))), .val (.ref r_36), .val (.ref r_37), .val (.int (own_f_rmBR r_36 o8)), .val (.int (own_f_rmBR r_37 o8)), .val (.int (own_f_rmK ((p0 &&& (2147483647 : Int32)) % (9 : Int32)))), .val (.int (own_f_rmK ((p1 &&& (2147483647 : Int32)) % (9 : Int32)))), .val (.int (own_f_rmBR r_37 o8)), .unset] [(.int (own_f_rmBR r_36 o8))])) t → Steps p.tables e below (s₁.setTop (entryFrame m #[(.int p0), (.int p1)] maxLocals)) t := fun t k => by
      refine pre43 _ ?_
      show Steps p.tables e below (T42.setTop (mkF m 61 #[.val (.int p0), .val (.int p1), .val (.int ((p0 &&& (2147483647 : Int32)) % (9 : Int32))), .val (.int ((p1 &&& (2147483647 : Int32)) % (9 : Int32))), .val (.ref r_36), .val (.ref r_37), .val (.int (own_f_rmBR r_36 o8)), .val (.int (own_f_rmBR r_37 o8)), .val (.int (own_f_rmK ((p0 &&& (2147483647 : Int32)) % (9 : Int32)))), .val (.int (own_f_rmK ((p1 &&& (2147483647 : Int32)) % (9 : Int32)))), .unset, .unset] [(.ref r_42)])) _
      rw [er]
      show Steps p.tables e below (T42.setTop (mkF m 61 #[.val (.int p0), .val (.int p1), .val (.int ((p0 &&& (2147483647 : Int32)) % (9 : Int32))), .val (.int ((p1 &&& (2147483647 : Int32)) % (9 : Int32))), .val (.ref r_36), .val (.ref r_37), .val (.int (own_f_rmBR r_36 o8)), .val (.int (own_f_rmBR r_37 o8)), .val (.int (own_f_rmK ((p0 &&& (2147483647 : Int32)) % (9 : Int32)))), .val (.int (own_f_rmK ((p1 &&& (2147483647 : Int32)) % (9 : Int32)))), .unset, .unset] [(.ref r_37)])) _
      refine st44.trans ?_
      show Steps p.tables e below (T44.setTop (mkF m 64 #[.val (.int p0), .val (.int p1), .val (.int ((p0 &&& (2147483647 : Int32)) % (9 : Int32))), .val (.int ((p1 &&& (2147483647 : Int32)) % (9 : Int32))), .val (.ref r_36), .val (.ref r_37), .val (.int (own_f_rmBR r_36 o8)), .val (.int (own_f_rmBR r_37 o8)), .val (.int (own_f_rmK ((p0 &&& (2147483647 : Int32)) % (9 : Int32)))), .val (.int (own_f_rmK ((p1 &&& (2147483647 : Int32)) % (9 : Int32)))), .unset, .unset] [(.int (own_f_rmBR r_37 o8))])) _
      refine XS.istore X44.here hx rfl (hb hby at_64) rfl (l' := #[.val (.int p0), .val (.int p1), .val (.int ((p0 &&& (2147483647 : Int32)) % (9 : Int32))), .val (.int ((p1 &&& (2147483647 : Int32)) % (9 : Int32))), .val (.ref r_36), .val (.ref r_37), .val (.int (own_f_rmBR r_36 o8)), .val (.int (own_f_rmBR r_37 o8)), .val (.int (own_f_rmK ((p0 &&& (2147483647 : Int32)) % (9 : Int32)))), .val (.int (own_f_rmK ((p1 &&& (2147483647 : Int32)) % (9 : Int32)))), .val (.int (own_f_rmBR r_37 o8)), .unset]) rfl ?_
      show Steps p.tables e below (T44.setTop (mkF m 66 #[.val (.int p0), .val (.int p1), .val (.int ((p0 &&& (2147483647 : Int32)) % (9 : Int32))), .val (.int ((p1 &&& (2147483647 : Int32)) % (9 : Int32))), .val (.ref r_36), .val (.ref r_37), .val (.int (own_f_rmBR r_36 o8)), .val (.int (own_f_rmBR r_37 o8)), .val (.int (own_f_rmK ((p0 &&& (2147483647 : Int32)) % (9 : Int32)))), .val (.int (own_f_rmK ((p1 &&& (2147483647 : Int32)) % (9 : Int32)))), .val (.int (own_f_rmBR r_37 o8)), .unset] [])) _
      refine XS.iload X44.here hx rfl (hb hby at_66) rfl ?_
      exact k
    by_cases hc68 : (own_f_rmBR r_36 o8) = (0 : Int32)
    · have hc90_46 : (own_f_rmBR r_36 o8) = (own_f_rmK ((p0 &&& (2147483647 : Int32)) % (9 : Int32))) := own_br _ _ _ i36_6
      have hc97_47 : (own_f_rmBR r_37 o8) = (own_f_rmK ((p1 &&& (2147483647 : Int32)) % (9 : Int32))) := own_br _ _ _ i37_6
      have hc104_48 : (own_f_rmK ((p0 &&& (2147483647 : Int32)) % (9 : Int32))) = (0 : Int32) := own_m1 _ _ (own_k9 p0) (own_k9 p1) hm
      have pre49 : ∀ t, Steps p.tables e below (T44.setTop (mkF m 109 #[.val (.int p0), .val (.int p1), .val (.int ((p0 &&& (2147483647 : Int32)) % (9 : Int32))), .val (.int ((p1 &&& (2147483647 : Int32)) % (9 : Int32))), .val (.ref r_36), .val (.ref r_37), .val (.int (own_f_rmBR r_36 o8)), .val (.int (own_f_rmBR r_37 o8)), .val (.int (own_f_rmK ((p0 &&& (2147483647 : Int32)) % (9 : Int32)))), .val (.int (own_f_rmK ((p1 &&& (2147483647 : Int32)) % (9 : Int32)))), .val (.int (own_f_rmBR r_37 o8)), .val (.int (1 : Int32))] [(.int (own_f_rmK ((p1 &&& (2147483647 : Int32)) % (9 : Int32)))), (.int (own_f_rmBR r_37 o8))])) t → Steps p.tables e below (s₁.setTop (entryFrame m #[(.int p0), (.int p1)] maxLocals)) t := fun t k => by
        refine pre45 _ ?_
        show Steps p.tables e below (T44.setTop (mkF m 68 #[.val (.int p0), .val (.int p1), .val (.int ((p0 &&& (2147483647 : Int32)) % (9 : Int32))), .val (.int ((p1 &&& (2147483647 : Int32)) % (9 : Int32))), .val (.ref r_36), .val (.ref r_37), .val (.int (own_f_rmBR r_36 o8)), .val (.int (own_f_rmBR r_37 o8)), .val (.int (own_f_rmK ((p0 &&& (2147483647 : Int32)) % (9 : Int32)))), .val (.int (own_f_rmK ((p1 &&& (2147483647 : Int32)) % (9 : Int32)))), .val (.int (own_f_rmBR r_37 o8)), .unset] [(.int (own_f_rmBR r_36 o8))])) _
        refine XS.ifYes X44.here hx rfl (pc0 := 68) (pc' := 79) rfl (hb hby at_68) rfl ((if0 _ _).trans (teq hc68).1) (by decide) (by decide) ?_
        show Steps p.tables e below (T44.setTop (mkF m 79 #[.val (.int p0), .val (.int p1), .val (.int ((p0 &&& (2147483647 : Int32)) % (9 : Int32))), .val (.int ((p1 &&& (2147483647 : Int32)) % (9 : Int32))), .val (.ref r_36), .val (.ref r_37), .val (.int (own_f_rmBR r_36 o8)), .val (.int (own_f_rmBR r_37 o8)), .val (.int (own_f_rmK ((p0 &&& (2147483647 : Int32)) % (9 : Int32)))), .val (.int (own_f_rmK ((p1 &&& (2147483647 : Int32)) % (9 : Int32)))), .val (.int (own_f_rmBR r_37 o8)), .unset] [])) _
        refine XS.iconst X44.here hx rfl (hb hby at_79) ?_
        show Steps p.tables e below (T44.setTop (mkF m 80 #[.val (.int p0), .val (.int p1), .val (.int ((p0 &&& (2147483647 : Int32)) % (9 : Int32))), .val (.int ((p1 &&& (2147483647 : Int32)) % (9 : Int32))), .val (.ref r_36), .val (.ref r_37), .val (.int (own_f_rmBR r_36 o8)), .val (.int (own_f_rmBR r_37 o8)), .val (.int (own_f_rmK ((p0 &&& (2147483647 : Int32)) % (9 : Int32)))), .val (.int (own_f_rmK ((p1 &&& (2147483647 : Int32)) % (9 : Int32)))), .val (.int (own_f_rmBR r_37 o8)), .unset] [(.int (1 : Int32))])) _
        refine XS.goto X44.here hx rfl (pc0 := 80) (pc' := 84) rfl (hb hby at_80) (by decide) (by decide) ?_
        show Steps p.tables e below (T44.setTop (mkF m 84 #[.val (.int p0), .val (.int p1), .val (.int ((p0 &&& (2147483647 : Int32)) % (9 : Int32))), .val (.int ((p1 &&& (2147483647 : Int32)) % (9 : Int32))), .val (.ref r_36), .val (.ref r_37), .val (.int (own_f_rmBR r_36 o8)), .val (.int (own_f_rmBR r_37 o8)), .val (.int (own_f_rmK ((p0 &&& (2147483647 : Int32)) % (9 : Int32)))), .val (.int (own_f_rmK ((p1 &&& (2147483647 : Int32)) % (9 : Int32)))), .val (.int (own_f_rmBR r_37 o8)), .unset] [(.int (1 : Int32))])) _
        refine XS.istore X44.here hx rfl (hb hby at_84) rfl (l' := #[.val (.int p0), .val (.int p1), .val (.int ((p0 &&& (2147483647 : Int32)) % (9 : Int32))), .val (.int ((p1 &&& (2147483647 : Int32)) % (9 : Int32))), .val (.ref r_36), .val (.ref r_37), .val (.int (own_f_rmBR r_36 o8)), .val (.int (own_f_rmBR r_37 o8)), .val (.int (own_f_rmK ((p0 &&& (2147483647 : Int32)) % (9 : Int32)))), .val (.int (own_f_rmK ((p1 &&& (2147483647 : Int32)) % (9 : Int32)))), .val (.int (own_f_rmBR r_37 o8)), .val (.int (1 : Int32))]) rfl ?_
        show Steps p.tables e below (T44.setTop (mkF m 86 #[.val (.int p0), .val (.int p1), .val (.int ((p0 &&& (2147483647 : Int32)) % (9 : Int32))), .val (.int ((p1 &&& (2147483647 : Int32)) % (9 : Int32))), .val (.ref r_36), .val (.ref r_37), .val (.int (own_f_rmBR r_36 o8)), .val (.int (own_f_rmBR r_37 o8)), .val (.int (own_f_rmK ((p0 &&& (2147483647 : Int32)) % (9 : Int32)))), .val (.int (own_f_rmK ((p1 &&& (2147483647 : Int32)) % (9 : Int32)))), .val (.int (own_f_rmBR r_37 o8)), .val (.int (1 : Int32))] [])) _
        refine XS.iload X44.here hx rfl (hb hby at_86) rfl ?_
        show Steps p.tables e below (T44.setTop (mkF m 88 #[.val (.int p0), .val (.int p1), .val (.int ((p0 &&& (2147483647 : Int32)) % (9 : Int32))), .val (.int ((p1 &&& (2147483647 : Int32)) % (9 : Int32))), .val (.ref r_36), .val (.ref r_37), .val (.int (own_f_rmBR r_36 o8)), .val (.int (own_f_rmBR r_37 o8)), .val (.int (own_f_rmK ((p0 &&& (2147483647 : Int32)) % (9 : Int32)))), .val (.int (own_f_rmK ((p1 &&& (2147483647 : Int32)) % (9 : Int32)))), .val (.int (own_f_rmBR r_37 o8)), .val (.int (1 : Int32))] [(.int (own_f_rmBR r_36 o8))])) _
        refine XS.iload X44.here hx rfl (hb hby at_88) rfl ?_
        show Steps p.tables e below (T44.setTop (mkF m 90 #[.val (.int p0), .val (.int p1), .val (.int ((p0 &&& (2147483647 : Int32)) % (9 : Int32))), .val (.int ((p1 &&& (2147483647 : Int32)) % (9 : Int32))), .val (.ref r_36), .val (.ref r_37), .val (.int (own_f_rmBR r_36 o8)), .val (.int (own_f_rmBR r_37 o8)), .val (.int (own_f_rmK ((p0 &&& (2147483647 : Int32)) % (9 : Int32)))), .val (.int (own_f_rmK ((p1 &&& (2147483647 : Int32)) % (9 : Int32)))), .val (.int (own_f_rmBR r_37 o8)), .val (.int (1 : Int32))] [(.int (own_f_rmK ((p0 &&& (2147483647 : Int32)) % (9 : Int32)))), (.int (own_f_rmBR r_36 o8))])) _
        refine XS.icmpNo X44.here hx rfl (hb hby at_90) rfl (teq hc90_46).2 ?_
        show Steps p.tables e below (T44.setTop (mkF m 93 #[.val (.int p0), .val (.int p1), .val (.int ((p0 &&& (2147483647 : Int32)) % (9 : Int32))), .val (.int ((p1 &&& (2147483647 : Int32)) % (9 : Int32))), .val (.ref r_36), .val (.ref r_37), .val (.int (own_f_rmBR r_36 o8)), .val (.int (own_f_rmBR r_37 o8)), .val (.int (own_f_rmK ((p0 &&& (2147483647 : Int32)) % (9 : Int32)))), .val (.int (own_f_rmK ((p1 &&& (2147483647 : Int32)) % (9 : Int32)))), .val (.int (own_f_rmBR r_37 o8)), .val (.int (1 : Int32))] [])) _
        refine XS.iload X44.here hx rfl (hb hby at_93) rfl ?_
        show Steps p.tables e below (T44.setTop (mkF m 95 #[.val (.int p0), .val (.int p1), .val (.int ((p0 &&& (2147483647 : Int32)) % (9 : Int32))), .val (.int ((p1 &&& (2147483647 : Int32)) % (9 : Int32))), .val (.ref r_36), .val (.ref r_37), .val (.int (own_f_rmBR r_36 o8)), .val (.int (own_f_rmBR r_37 o8)), .val (.int (own_f_rmK ((p0 &&& (2147483647 : Int32)) % (9 : Int32)))), .val (.int (own_f_rmK ((p1 &&& (2147483647 : Int32)) % (9 : Int32)))), .val (.int (own_f_rmBR r_37 o8)), .val (.int (1 : Int32))] [(.int (own_f_rmBR r_37 o8))])) _
        refine XS.iload X44.here hx rfl (hb hby at_95) rfl ?_
        show Steps p.tables e below (T44.setTop (mkF m 97 #[.val (.int p0), .val (.int p1), .val (.int ((p0 &&& (2147483647 : Int32)) % (9 : Int32))), .val (.int ((p1 &&& (2147483647 : Int32)) % (9 : Int32))), .val (.ref r_36), .val (.ref r_37), .val (.int (own_f_rmBR r_36 o8)), .val (.int (own_f_rmBR r_37 o8)), .val (.int (own_f_rmK ((p0 &&& (2147483647 : Int32)) % (9 : Int32)))), .val (.int (own_f_rmK ((p1 &&& (2147483647 : Int32)) % (9 : Int32)))), .val (.int (own_f_rmBR r_37 o8)), .val (.int (1 : Int32))] [(.int (own_f_rmK ((p1 &&& (2147483647 : Int32)) % (9 : Int32)))), (.int (own_f_rmBR r_37 o8))])) _
        refine XS.icmpNo X44.here hx rfl (hb hby at_97) rfl (teq hc97_47).2 ?_
        show Steps p.tables e below (T44.setTop (mkF m 100 #[.val (.int p0), .val (.int p1), .val (.int ((p0 &&& (2147483647 : Int32)) % (9 : Int32))), .val (.int ((p1 &&& (2147483647 : Int32)) % (9 : Int32))), .val (.ref r_36), .val (.ref r_37), .val (.int (own_f_rmBR r_36 o8)), .val (.int (own_f_rmBR r_37 o8)), .val (.int (own_f_rmK ((p0 &&& (2147483647 : Int32)) % (9 : Int32)))), .val (.int (own_f_rmK ((p1 &&& (2147483647 : Int32)) % (9 : Int32)))), .val (.int (own_f_rmBR r_37 o8)), .val (.int (1 : Int32))] [])) _
        refine XS.iload X44.here hx rfl (hb hby at_100) rfl ?_
        show Steps p.tables e below (T44.setTop (mkF m 102 #[.val (.int p0), .val (.int p1), .val (.int ((p0 &&& (2147483647 : Int32)) % (9 : Int32))), .val (.int ((p1 &&& (2147483647 : Int32)) % (9 : Int32))), .val (.ref r_36), .val (.ref r_37), .val (.int (own_f_rmBR r_36 o8)), .val (.int (own_f_rmBR r_37 o8)), .val (.int (own_f_rmK ((p0 &&& (2147483647 : Int32)) % (9 : Int32)))), .val (.int (own_f_rmK ((p1 &&& (2147483647 : Int32)) % (9 : Int32)))), .val (.int (own_f_rmBR r_37 o8)), .val (.int (1 : Int32))] [(.int (own_f_rmBR r_37 o8))])) _
        refine XS.iload X44.here hx rfl (hb hby at_102) rfl ?_
        show Steps p.tables e below (T44.setTop (mkF m 104 #[.val (.int p0), .val (.int p1), .val (.int ((p0 &&& (2147483647 : Int32)) % (9 : Int32))), .val (.int ((p1 &&& (2147483647 : Int32)) % (9 : Int32))), .val (.ref r_36), .val (.ref r_37), .val (.int (own_f_rmBR r_36 o8)), .val (.int (own_f_rmBR r_37 o8)), .val (.int (own_f_rmK ((p0 &&& (2147483647 : Int32)) % (9 : Int32)))), .val (.int (own_f_rmK ((p1 &&& (2147483647 : Int32)) % (9 : Int32)))), .val (.int (own_f_rmBR r_37 o8)), .val (.int (1 : Int32))] [(.int (own_f_rmK ((p0 &&& (2147483647 : Int32)) % (9 : Int32)))), (.int (own_f_rmBR r_37 o8))])) _
        refine XS.ifNo X44.here hx rfl (hb hby at_104) rfl ((if0 _ _).trans (teq hc104_48).2) ?_
        show Steps p.tables e below (T44.setTop (mkF m 107 #[.val (.int p0), .val (.int p1), .val (.int ((p0 &&& (2147483647 : Int32)) % (9 : Int32))), .val (.int ((p1 &&& (2147483647 : Int32)) % (9 : Int32))), .val (.ref r_36), .val (.ref r_37), .val (.int (own_f_rmBR r_36 o8)), .val (.int (own_f_rmBR r_37 o8)), .val (.int (own_f_rmK ((p0 &&& (2147483647 : Int32)) % (9 : Int32)))), .val (.int (own_f_rmK ((p1 &&& (2147483647 : Int32)) % (9 : Int32)))), .val (.int (own_f_rmBR r_37 o8)), .val (.int (1 : Int32))] [(.int (own_f_rmBR r_37 o8))])) _
        refine XS.iload X44.here hx rfl (hb hby at_107) rfl ?_
        exact k
      by_cases hc109 : (own_f_rmK ((p1 &&& (2147483647 : Int32)) % (9 : Int32))) = (0 : Int32)
      · have hc117_50 : (own_f_rmBR r_37 o8) = (0 : Int32) := (own_br _ _ _ i37_6).trans hc109
        obtain ⟨fs, hr, hrun, hended, hW, hsame⟩ := X44.leave (v := some (.int (1 : Int32))) (fun h => by rw [Bd.returns] at h; cases h)
        refine ⟨_, _, pre49 _ ?_, hrun, hended, _, _, rfl, ?_, ⟨_, rfl⟩, hW, hsame.mono (by decide) (by decide)⟩
        · show Steps p.tables e below (T44.setTop (mkF m 109 #[.val (.int p0), .val (.int p1), .val (.int ((p0 &&& (2147483647 : Int32)) % (9 : Int32))), .val (.int ((p1 &&& (2147483647 : Int32)) % (9 : Int32))), .val (.ref r_36), .val (.ref r_37), .val (.int (own_f_rmBR r_36 o8)), .val (.int (own_f_rmBR r_37 o8)), .val (.int (own_f_rmK ((p0 &&& (2147483647 : Int32)) % (9 : Int32)))), .val (.int (own_f_rmK ((p1 &&& (2147483647 : Int32)) % (9 : Int32)))), .val (.int (own_f_rmBR r_37 o8)), .val (.int (1 : Int32))] [(.int (own_f_rmK ((p1 &&& (2147483647 : Int32)) % (9 : Int32)))), (.int (own_f_rmBR r_37 o8))])) _
          refine XS.ifYes X44.here hx rfl (pc0 := 109) (pc' := 116) rfl (hb hby at_109) rfl ((if0 _ _).trans (teq hc109).1) (by decide) (by decide) ?_
          show Steps p.tables e below (T44.setTop (mkF m 116 #[.val (.int p0), .val (.int p1), .val (.int ((p0 &&& (2147483647 : Int32)) % (9 : Int32))), .val (.int ((p1 &&& (2147483647 : Int32)) % (9 : Int32))), .val (.ref r_36), .val (.ref r_37), .val (.int (own_f_rmBR r_36 o8)), .val (.int (own_f_rmBR r_37 o8)), .val (.int (own_f_rmK ((p0 &&& (2147483647 : Int32)) % (9 : Int32)))), .val (.int (own_f_rmK ((p1 &&& (2147483647 : Int32)) % (9 : Int32)))), .val (.int (own_f_rmBR r_37 o8)), .val (.int (1 : Int32))] [(.int (own_f_rmBR r_37 o8))])) _
          refine XS.iconst X44.here hx rfl (hb hby at_116) ?_
          show Steps p.tables e below (T44.setTop (mkF m 117 #[.val (.int p0), .val (.int p1), .val (.int ((p0 &&& (2147483647 : Int32)) % (9 : Int32))), .val (.int ((p1 &&& (2147483647 : Int32)) % (9 : Int32))), .val (.ref r_36), .val (.ref r_37), .val (.int (own_f_rmBR r_36 o8)), .val (.int (own_f_rmBR r_37 o8)), .val (.int (own_f_rmK ((p0 &&& (2147483647 : Int32)) % (9 : Int32)))), .val (.int (own_f_rmK ((p1 &&& (2147483647 : Int32)) % (9 : Int32)))), .val (.int (own_f_rmBR r_37 o8)), .val (.int (1 : Int32))] [(.int (0 : Int32)), (.int (own_f_rmBR r_37 o8))])) _
          refine XS.icmpNo X44.here hx rfl (hb hby at_117) rfl (teq hc117_50).2 ?_
          show Steps p.tables e below (T44.setTop (mkF m 120 #[.val (.int p0), .val (.int p1), .val (.int ((p0 &&& (2147483647 : Int32)) % (9 : Int32))), .val (.int ((p1 &&& (2147483647 : Int32)) % (9 : Int32))), .val (.ref r_36), .val (.ref r_37), .val (.int (own_f_rmBR r_36 o8)), .val (.int (own_f_rmBR r_37 o8)), .val (.int (own_f_rmK ((p0 &&& (2147483647 : Int32)) % (9 : Int32)))), .val (.int (own_f_rmK ((p1 &&& (2147483647 : Int32)) % (9 : Int32)))), .val (.int (own_f_rmBR r_37 o8)), .val (.int (1 : Int32))] [])) _
          refine XS.iload X44.here hx rfl (hb hby at_120) rfl ?_
          show Steps p.tables e below (T44.setTop (mkF m 122 #[.val (.int p0), .val (.int p1), .val (.int ((p0 &&& (2147483647 : Int32)) % (9 : Int32))), .val (.int ((p1 &&& (2147483647 : Int32)) % (9 : Int32))), .val (.ref r_36), .val (.ref r_37), .val (.int (own_f_rmBR r_36 o8)), .val (.int (own_f_rmBR r_37 o8)), .val (.int (own_f_rmK ((p0 &&& (2147483647 : Int32)) % (9 : Int32)))), .val (.int (own_f_rmK ((p1 &&& (2147483647 : Int32)) % (9 : Int32)))), .val (.int (own_f_rmBR r_37 o8)), .val (.int (1 : Int32))] [(.int (1 : Int32))])) _
          refine XS.ifNo X44.here hx rfl (hb hby at_122) rfl ((if0 _ _).trans (feq (by decide : ¬ ((1 : Int32) = (0 : Int32)))).1) ?_
          show Steps p.tables e below (T44.setTop (mkF m 125 #[.val (.int p0), .val (.int p1), .val (.int ((p0 &&& (2147483647 : Int32)) % (9 : Int32))), .val (.int ((p1 &&& (2147483647 : Int32)) % (9 : Int32))), .val (.ref r_36), .val (.ref r_37), .val (.int (own_f_rmBR r_36 o8)), .val (.int (own_f_rmBR r_37 o8)), .val (.int (own_f_rmK ((p0 &&& (2147483647 : Int32)) % (9 : Int32)))), .val (.int (own_f_rmK ((p1 &&& (2147483647 : Int32)) % (9 : Int32)))), .val (.int (own_f_rmBR r_37 o8)), .val (.int (1 : Int32))] [])) _
          refine XS.iconst X44.here hx rfl (hb hby at_125) ?_
          show Steps p.tables e below (T44.setTop (mkF m 126 #[.val (.int p0), .val (.int p1), .val (.int ((p0 &&& (2147483647 : Int32)) % (9 : Int32))), .val (.int ((p1 &&& (2147483647 : Int32)) % (9 : Int32))), .val (.ref r_36), .val (.ref r_37), .val (.int (own_f_rmBR r_36 o8)), .val (.int (own_f_rmBR r_37 o8)), .val (.int (own_f_rmK ((p0 &&& (2147483647 : Int32)) % (9 : Int32)))), .val (.int (own_f_rmK ((p1 &&& (2147483647 : Int32)) % (9 : Int32)))), .val (.int (own_f_rmBR r_37 o8)), .val (.int (1 : Int32))] [(.int (1 : Int32))])) _
          refine XS.goto X44.here hx rfl (pc0 := 126) (pc' := 130) rfl (hb hby at_126) (by decide) (by decide) ?_
          show Steps p.tables e below (T44.setTop (mkF m 130 #[.val (.int p0), .val (.int p1), .val (.int ((p0 &&& (2147483647 : Int32)) % (9 : Int32))), .val (.int ((p1 &&& (2147483647 : Int32)) % (9 : Int32))), .val (.ref r_36), .val (.ref r_37), .val (.int (own_f_rmBR r_36 o8)), .val (.int (own_f_rmBR r_37 o8)), .val (.int (own_f_rmK ((p0 &&& (2147483647 : Int32)) % (9 : Int32)))), .val (.int (own_f_rmK ((p1 &&& (2147483647 : Int32)) % (9 : Int32)))), .val (.int (own_f_rmBR r_37 o8)), .val (.int (1 : Int32))] [(.int (1 : Int32))])) _
          exact retN X44 hx (t := .boolean) Bd.returns (by simp) (hb hby at_130) hr
        · show Q0 Z p0 p1 o0 o1 o2 o3 o4 o5 o6 o7 o8 mr h0 n0 _ T44.heap _
          rw [e44]
          exact ⟨rfl, N44⟩
      · have hc117_51 : (own_f_rmBR r_37 o8) = (1 : Int32) := (own_br _ _ _ i37_6).trans (own_k1 _ hc109)
        obtain ⟨fs, hr, hrun, hended, hW, hsame⟩ := X44.leave (v := some (.int (1 : Int32))) (fun h => by rw [Bd.returns] at h; cases h)
        refine ⟨_, _, pre49 _ ?_, hrun, hended, _, _, rfl, ?_, ⟨_, rfl⟩, hW, hsame.mono (by decide) (by decide)⟩
        · show Steps p.tables e below (T44.setTop (mkF m 109 #[.val (.int p0), .val (.int p1), .val (.int ((p0 &&& (2147483647 : Int32)) % (9 : Int32))), .val (.int ((p1 &&& (2147483647 : Int32)) % (9 : Int32))), .val (.ref r_36), .val (.ref r_37), .val (.int (own_f_rmBR r_36 o8)), .val (.int (own_f_rmBR r_37 o8)), .val (.int (own_f_rmK ((p0 &&& (2147483647 : Int32)) % (9 : Int32)))), .val (.int (own_f_rmK ((p1 &&& (2147483647 : Int32)) % (9 : Int32)))), .val (.int (own_f_rmBR r_37 o8)), .val (.int (1 : Int32))] [(.int (own_f_rmK ((p1 &&& (2147483647 : Int32)) % (9 : Int32)))), (.int (own_f_rmBR r_37 o8))])) _
          refine XS.ifNo X44.here hx rfl (hb hby at_109) rfl ((if0 _ _).trans (feq hc109).1) ?_
          show Steps p.tables e below (T44.setTop (mkF m 112 #[.val (.int p0), .val (.int p1), .val (.int ((p0 &&& (2147483647 : Int32)) % (9 : Int32))), .val (.int ((p1 &&& (2147483647 : Int32)) % (9 : Int32))), .val (.ref r_36), .val (.ref r_37), .val (.int (own_f_rmBR r_36 o8)), .val (.int (own_f_rmBR r_37 o8)), .val (.int (own_f_rmK ((p0 &&& (2147483647 : Int32)) % (9 : Int32)))), .val (.int (own_f_rmK ((p1 &&& (2147483647 : Int32)) % (9 : Int32)))), .val (.int (own_f_rmBR r_37 o8)), .val (.int (1 : Int32))] [(.int (own_f_rmBR r_37 o8))])) _
          refine XS.iconst X44.here hx rfl (hb hby at_112) ?_
          show Steps p.tables e below (T44.setTop (mkF m 113 #[.val (.int p0), .val (.int p1), .val (.int ((p0 &&& (2147483647 : Int32)) % (9 : Int32))), .val (.int ((p1 &&& (2147483647 : Int32)) % (9 : Int32))), .val (.ref r_36), .val (.ref r_37), .val (.int (own_f_rmBR r_36 o8)), .val (.int (own_f_rmBR r_37 o8)), .val (.int (own_f_rmK ((p0 &&& (2147483647 : Int32)) % (9 : Int32)))), .val (.int (own_f_rmK ((p1 &&& (2147483647 : Int32)) % (9 : Int32)))), .val (.int (own_f_rmBR r_37 o8)), .val (.int (1 : Int32))] [(.int (1 : Int32)), (.int (own_f_rmBR r_37 o8))])) _
          refine XS.goto X44.here hx rfl (pc0 := 113) (pc' := 117) rfl (hb hby at_113) (by decide) (by decide) ?_
          show Steps p.tables e below (T44.setTop (mkF m 117 #[.val (.int p0), .val (.int p1), .val (.int ((p0 &&& (2147483647 : Int32)) % (9 : Int32))), .val (.int ((p1 &&& (2147483647 : Int32)) % (9 : Int32))), .val (.ref r_36), .val (.ref r_37), .val (.int (own_f_rmBR r_36 o8)), .val (.int (own_f_rmBR r_37 o8)), .val (.int (own_f_rmK ((p0 &&& (2147483647 : Int32)) % (9 : Int32)))), .val (.int (own_f_rmK ((p1 &&& (2147483647 : Int32)) % (9 : Int32)))), .val (.int (own_f_rmBR r_37 o8)), .val (.int (1 : Int32))] [(.int (1 : Int32)), (.int (own_f_rmBR r_37 o8))])) _
          refine XS.icmpNo X44.here hx rfl (hb hby at_117) rfl (teq hc117_51).2 ?_
          show Steps p.tables e below (T44.setTop (mkF m 120 #[.val (.int p0), .val (.int p1), .val (.int ((p0 &&& (2147483647 : Int32)) % (9 : Int32))), .val (.int ((p1 &&& (2147483647 : Int32)) % (9 : Int32))), .val (.ref r_36), .val (.ref r_37), .val (.int (own_f_rmBR r_36 o8)), .val (.int (own_f_rmBR r_37 o8)), .val (.int (own_f_rmK ((p0 &&& (2147483647 : Int32)) % (9 : Int32)))), .val (.int (own_f_rmK ((p1 &&& (2147483647 : Int32)) % (9 : Int32)))), .val (.int (own_f_rmBR r_37 o8)), .val (.int (1 : Int32))] [])) _
          refine XS.iload X44.here hx rfl (hb hby at_120) rfl ?_
          show Steps p.tables e below (T44.setTop (mkF m 122 #[.val (.int p0), .val (.int p1), .val (.int ((p0 &&& (2147483647 : Int32)) % (9 : Int32))), .val (.int ((p1 &&& (2147483647 : Int32)) % (9 : Int32))), .val (.ref r_36), .val (.ref r_37), .val (.int (own_f_rmBR r_36 o8)), .val (.int (own_f_rmBR r_37 o8)), .val (.int (own_f_rmK ((p0 &&& (2147483647 : Int32)) % (9 : Int32)))), .val (.int (own_f_rmK ((p1 &&& (2147483647 : Int32)) % (9 : Int32)))), .val (.int (own_f_rmBR r_37 o8)), .val (.int (1 : Int32))] [(.int (1 : Int32))])) _
          refine XS.ifNo X44.here hx rfl (hb hby at_122) rfl ((if0 _ _).trans (feq (by decide : ¬ ((1 : Int32) = (0 : Int32)))).1) ?_
          show Steps p.tables e below (T44.setTop (mkF m 125 #[.val (.int p0), .val (.int p1), .val (.int ((p0 &&& (2147483647 : Int32)) % (9 : Int32))), .val (.int ((p1 &&& (2147483647 : Int32)) % (9 : Int32))), .val (.ref r_36), .val (.ref r_37), .val (.int (own_f_rmBR r_36 o8)), .val (.int (own_f_rmBR r_37 o8)), .val (.int (own_f_rmK ((p0 &&& (2147483647 : Int32)) % (9 : Int32)))), .val (.int (own_f_rmK ((p1 &&& (2147483647 : Int32)) % (9 : Int32)))), .val (.int (own_f_rmBR r_37 o8)), .val (.int (1 : Int32))] [])) _
          refine XS.iconst X44.here hx rfl (hb hby at_125) ?_
          show Steps p.tables e below (T44.setTop (mkF m 126 #[.val (.int p0), .val (.int p1), .val (.int ((p0 &&& (2147483647 : Int32)) % (9 : Int32))), .val (.int ((p1 &&& (2147483647 : Int32)) % (9 : Int32))), .val (.ref r_36), .val (.ref r_37), .val (.int (own_f_rmBR r_36 o8)), .val (.int (own_f_rmBR r_37 o8)), .val (.int (own_f_rmK ((p0 &&& (2147483647 : Int32)) % (9 : Int32)))), .val (.int (own_f_rmK ((p1 &&& (2147483647 : Int32)) % (9 : Int32)))), .val (.int (own_f_rmBR r_37 o8)), .val (.int (1 : Int32))] [(.int (1 : Int32))])) _
          refine XS.goto X44.here hx rfl (pc0 := 126) (pc' := 130) rfl (hb hby at_126) (by decide) (by decide) ?_
          show Steps p.tables e below (T44.setTop (mkF m 130 #[.val (.int p0), .val (.int p1), .val (.int ((p0 &&& (2147483647 : Int32)) % (9 : Int32))), .val (.int ((p1 &&& (2147483647 : Int32)) % (9 : Int32))), .val (.ref r_36), .val (.ref r_37), .val (.int (own_f_rmBR r_36 o8)), .val (.int (own_f_rmBR r_37 o8)), .val (.int (own_f_rmK ((p0 &&& (2147483647 : Int32)) % (9 : Int32)))), .val (.int (own_f_rmK ((p1 &&& (2147483647 : Int32)) % (9 : Int32)))), .val (.int (own_f_rmBR r_37 o8)), .val (.int (1 : Int32))] [(.int (1 : Int32))])) _
          exact retN X44 hx (t := .boolean) Bd.returns (by simp) (hb hby at_130) hr
        · show Q0 Z p0 p1 o0 o1 o2 o3 o4 o5 o6 o7 o8 mr h0 n0 _ T44.heap _
          rw [e44]
          exact ⟨rfl, N44⟩
    · obtain ⟨cq52, kq52, q52a, q52b, q52c⟩ := isOf hZ e44 i36_4
      obtain ⟨_, _, ⟨T52, L52, k52, n52⟩, -, X52, ⟨Lc52, hQ52, l52, y52, z52⟩, st52⟩ := X44.virtualBack hx (y := (⟨"com/example/alterlint/alterlint/model/LockMode", "blocksWrites", "()Z"⟩ : MethodName)) (z := (⟨"com/example/alterlint/alterlint/model/LockMode", "blocksWrites", "()Z"⟩ : MethodName)) hown (mvT hZ (hw _ (List.mem_of_getElem? (i := 51) rfl))) (mvT hZ (hw _ (List.mem_of_getElem? (i := 52) rfl))) (notFace_of_selects (args := #[]) (mvT hZ (hw _ (List.mem_of_getElem? (i := 54) rfl)))) (mvT hZ (hw _ (List.mem_of_getElem? (i := 54) rfl))) (mvT hZ (hw _ (List.mem_of_getElem? (i := 53) rfl))) (by decide) (backOf (W := 0) (rmBW l Z a0 hw [] r_36 mr ((p0 &&& (2147483647 : Int32)) % (9 : Int32)) o5 h0 n0 (Nat.le_trans Z0 K0.1) i36_4 i36_5 S_SHARE E_o5 F_o5_ordinal M) hZ (hw _ (List.mem_of_getElem? (i := 55) rfl)) (hw _ (List.mem_of_getElem? (i := 6) rfl)) (by decide) (by decide)) q52a q52c (g := (mkF m 73 #[.val (.int p0), .val (.int p1), .val (.int ((p0 &&& (2147483647 : Int32)) % (9 : Int32))), .val (.int ((p1 &&& (2147483647 : Int32)) % (9 : Int32))), .val (.ref r_36), .val (.ref r_37), .val (.int (own_f_rmBR r_36 o8)), .val (.int (own_f_rmBR r_37 o8)), .val (.int (own_f_rmK ((p0 &&& (2147483647 : Int32)) % (9 : Int32)))), .val (.int (own_f_rmK ((p1 &&& (2147483647 : Int32)) % (9 : Int32)))), .val (.int (own_f_rmBR r_37 o8)), .unset] [(.ref r_36)])) rfl (by rw [hml]; rfl) (Steps.refl _) (argsL := []) (rest := []) (lenOf own_pd2 rfl) rfl (by show 2 * 0 + _ ≤ _; exact Nat.le_of_eq rfl) (hb hby at_73) (fun _ _ => ⟨rfl, e44, (by decide : 0 + 0 ≤ _), (by decide : 0 + 0 ≤ _)⟩)
      dsimp only [Pt.U, Pt.locs, Pt.cells, Pt.slots] at X52 l52 y52 z52 st52 hQ52
      subst l52 y52 z52
      obtain ⟨rfl, N52q, e52⟩ := hQ52
      have N52 := Fr.app N44 N52q
      have hc76_53 : ¬ ((own_f_rmBW ((p0 &&& (2147483647 : Int32)) % (9 : Int32))) = (0 : Int32)) := own_bw _ _ _ i36_6 hc68
      have hc90_54 : (own_f_rmBR r_36 o8) = (own_f_rmK ((p0 &&& (2147483647 : Int32)) % (9 : Int32))) := own_br _ _ _ i36_6
      have hc97_55 : (own_f_rmBR r_37 o8) = (own_f_rmK ((p1 &&& (2147483647 : Int32)) % (9 : Int32))) := own_br _ _ _ i37_6
      have hc104_56 : (own_f_rmK ((p0 &&& (2147483647 : Int32)) % (9 : Int32))) = (0 : Int32) := own_m1 _ _ (own_k9 p0) (own_k9 p1) hm
      have pre57 : ∀ t, Steps p.tables e below (T52.setTop (mkF m 109 #[.val (.int p0), .val (.int p1), .val (.int ((p0 &&& (2147483647 : Int32)) % (9 : Int32))), .val (.int ((p1 &&& (2147483647 : Int32)) % (9 : Int32))), .val (.ref r_36), .val (.ref r_37), .val (.int (own_f_rmBR r_36 o8)), .val (.int (own_f_rmBR r_37 o8)), .val (.int (own_f_rmK ((p0 &&& (2147483647 : Int32)) % (9 : Int32)))), .val (.int (own_f_rmK ((p1 &&& (2147483647 : Int32)) % (9 : Int32)))), .val (.int (own_f_rmBR r_37 o8)), .val (.int (1 : Int32))] [(.int (own_f_rmK ((p1 &&& (2147483647 : Int32)) % (9 : Int32)))), (.int (own_f_rmBR r_37 o8))])) t → Steps p.tables e below (s₁.setTop (entryFrame m #[(.int p0), (.int p1)] maxLocals)) t := fun t k => by
        refine pre45 _ ?_
        show Steps p.tables e below (T44.setTop (mkF m 68 #[.val (.int p0), .val (.int p1), .val (.int ((p0 &&& (2147483647 : Int32)) % (9 : Int32))), .val (.int ((p1 &&& (2147483647 : Int32)) % (9 : Int32))), .val (.ref r_36), .val (.ref r_37), .val (.int (own_f_rmBR r_36 o8)), .val (.int (own_f_rmBR r_37 o8)), .val (.int (own_f_rmK ((p0 &&& (2147483647 : Int32)) % (9 : Int32)))), .val (.int (own_f_rmK ((p1 &&& (2147483647 : Int32)) % (9 : Int32)))), .val (.int (own_f_rmBR r_37 o8)), .unset] [(.int (own_f_rmBR r_36 o8))])) _
        refine XS.ifNo X44.here hx rfl (hb hby at_68) rfl ((if0 _ _).trans (feq hc68).1) ?_
        show Steps p.tables e below (T44.setTop (mkF m 71 #[.val (.int p0), .val (.int p1), .val (.int ((p0 &&& (2147483647 : Int32)) % (9 : Int32))), .val (.int ((p1 &&& (2147483647 : Int32)) % (9 : Int32))), .val (.ref r_36), .val (.ref r_37), .val (.int (own_f_rmBR r_36 o8)), .val (.int (own_f_rmBR r_37 o8)), .val (.int (own_f_rmK ((p0 &&& (2147483647 : Int32)) % (9 : Int32)))), .val (.int (own_f_rmK ((p1 &&& (2147483647 : Int32)) % (9 : Int32)))), .val (.int (own_f_rmBR r_37 o8)), .unset] [])) _
        refine XS.aload X44.here hx rfl (hb hby at_71) rfl rfl ?_
        show Steps p.tables e below (T44.setTop (mkF m 73 #[.val (.int p0), .val (.int p1), .val (.int ((p0 &&& (2147483647 : Int32)) % (9 : Int32))), .val (.int ((p1 &&& (2147483647 : Int32)) % (9 : Int32))), .val (.ref r_36), .val (.ref r_37), .val (.int (own_f_rmBR r_36 o8)), .val (.int (own_f_rmBR r_37 o8)), .val (.int (own_f_rmK ((p0 &&& (2147483647 : Int32)) % (9 : Int32)))), .val (.int (own_f_rmK ((p1 &&& (2147483647 : Int32)) % (9 : Int32)))), .val (.int (own_f_rmBR r_37 o8)), .unset] [(.ref r_36)])) _
        refine st52.trans ?_
        show Steps p.tables e below (T52.setTop (mkF m 76 #[.val (.int p0), .val (.int p1), .val (.int ((p0 &&& (2147483647 : Int32)) % (9 : Int32))), .val (.int ((p1 &&& (2147483647 : Int32)) % (9 : Int32))), .val (.ref r_36), .val (.ref r_37), .val (.int (own_f_rmBR r_36 o8)), .val (.int (own_f_rmBR r_37 o8)), .val (.int (own_f_rmK ((p0 &&& (2147483647 : Int32)) % (9 : Int32)))), .val (.int (own_f_rmK ((p1 &&& (2147483647 : Int32)) % (9 : Int32)))), .val (.int (own_f_rmBR r_37 o8)), .unset] [(.int (own_f_rmBW ((p0 &&& (2147483647 : Int32)) % (9 : Int32))))])) _
        refine XS.ifNo X52.here hx rfl (hb hby at_76) rfl ((if0 _ _).trans (feq hc76_53).1) ?_
        show Steps p.tables e below (T52.setTop (mkF m 79 #[.val (.int p0), .val (.int p1), .val (.int ((p0 &&& (2147483647 : Int32)) % (9 : Int32))), .val (.int ((p1 &&& (2147483647 : Int32)) % (9 : Int32))), .val (.ref r_36), .val (.ref r_37), .val (.int (own_f_rmBR r_36 o8)), .val (.int (own_f_rmBR r_37 o8)), .val (.int (own_f_rmK ((p0 &&& (2147483647 : Int32)) % (9 : Int32)))), .val (.int (own_f_rmK ((p1 &&& (2147483647 : Int32)) % (9 : Int32)))), .val (.int (own_f_rmBR r_37 o8)), .unset] [])) _
        refine XS.iconst X52.here hx rfl (hb hby at_79) ?_
        show Steps p.tables e below (T52.setTop (mkF m 80 #[.val (.int p0), .val (.int p1), .val (.int ((p0 &&& (2147483647 : Int32)) % (9 : Int32))), .val (.int ((p1 &&& (2147483647 : Int32)) % (9 : Int32))), .val (.ref r_36), .val (.ref r_37), .val (.int (own_f_rmBR r_36 o8)), .val (.int (own_f_rmBR r_37 o8)), .val (.int (own_f_rmK ((p0 &&& (2147483647 : Int32)) % (9 : Int32)))), .val (.int (own_f_rmK ((p1 &&& (2147483647 : Int32)) % (9 : Int32)))), .val (.int (own_f_rmBR r_37 o8)), .unset] [(.int (1 : Int32))])) _
        refine XS.goto X52.here hx rfl (pc0 := 80) (pc' := 84) rfl (hb hby at_80) (by decide) (by decide) ?_
        show Steps p.tables e below (T52.setTop (mkF m 84 #[.val (.int p0), .val (.int p1), .val (.int ((p0 &&& (2147483647 : Int32)) % (9 : Int32))), .val (.int ((p1 &&& (2147483647 : Int32)) % (9 : Int32))), .val (.ref r_36), .val (.ref r_37), .val (.int (own_f_rmBR r_36 o8)), .val (.int (own_f_rmBR r_37 o8)), .val (.int (own_f_rmK ((p0 &&& (2147483647 : Int32)) % (9 : Int32)))), .val (.int (own_f_rmK ((p1 &&& (2147483647 : Int32)) % (9 : Int32)))), .val (.int (own_f_rmBR r_37 o8)), .unset] [(.int (1 : Int32))])) _
        refine XS.istore X52.here hx rfl (hb hby at_84) rfl (l' := #[.val (.int p0), .val (.int p1), .val (.int ((p0 &&& (2147483647 : Int32)) % (9 : Int32))), .val (.int ((p1 &&& (2147483647 : Int32)) % (9 : Int32))), .val (.ref r_36), .val (.ref r_37), .val (.int (own_f_rmBR r_36 o8)), .val (.int (own_f_rmBR r_37 o8)), .val (.int (own_f_rmK ((p0 &&& (2147483647 : Int32)) % (9 : Int32)))), .val (.int (own_f_rmK ((p1 &&& (2147483647 : Int32)) % (9 : Int32)))), .val (.int (own_f_rmBR r_37 o8)), .val (.int (1 : Int32))]) rfl ?_
        show Steps p.tables e below (T52.setTop (mkF m 86 #[.val (.int p0), .val (.int p1), .val (.int ((p0 &&& (2147483647 : Int32)) % (9 : Int32))), .val (.int ((p1 &&& (2147483647 : Int32)) % (9 : Int32))), .val (.ref r_36), .val (.ref r_37), .val (.int (own_f_rmBR r_36 o8)), .val (.int (own_f_rmBR r_37 o8)), .val (.int (own_f_rmK ((p0 &&& (2147483647 : Int32)) % (9 : Int32)))), .val (.int (own_f_rmK ((p1 &&& (2147483647 : Int32)) % (9 : Int32)))), .val (.int (own_f_rmBR r_37 o8)), .val (.int (1 : Int32))] [])) _
        refine XS.iload X52.here hx rfl (hb hby at_86) rfl ?_
        show Steps p.tables e below (T52.setTop (mkF m 88 #[.val (.int p0), .val (.int p1), .val (.int ((p0 &&& (2147483647 : Int32)) % (9 : Int32))), .val (.int ((p1 &&& (2147483647 : Int32)) % (9 : Int32))), .val (.ref r_36), .val (.ref r_37), .val (.int (own_f_rmBR r_36 o8)), .val (.int (own_f_rmBR r_37 o8)), .val (.int (own_f_rmK ((p0 &&& (2147483647 : Int32)) % (9 : Int32)))), .val (.int (own_f_rmK ((p1 &&& (2147483647 : Int32)) % (9 : Int32)))), .val (.int (own_f_rmBR r_37 o8)), .val (.int (1 : Int32))] [(.int (own_f_rmBR r_36 o8))])) _
        refine XS.iload X52.here hx rfl (hb hby at_88) rfl ?_
        show Steps p.tables e below (T52.setTop (mkF m 90 #[.val (.int p0), .val (.int p1), .val (.int ((p0 &&& (2147483647 : Int32)) % (9 : Int32))), .val (.int ((p1 &&& (2147483647 : Int32)) % (9 : Int32))), .val (.ref r_36), .val (.ref r_37), .val (.int (own_f_rmBR r_36 o8)), .val (.int (own_f_rmBR r_37 o8)), .val (.int (own_f_rmK ((p0 &&& (2147483647 : Int32)) % (9 : Int32)))), .val (.int (own_f_rmK ((p1 &&& (2147483647 : Int32)) % (9 : Int32)))), .val (.int (own_f_rmBR r_37 o8)), .val (.int (1 : Int32))] [(.int (own_f_rmK ((p0 &&& (2147483647 : Int32)) % (9 : Int32)))), (.int (own_f_rmBR r_36 o8))])) _
        refine XS.icmpNo X52.here hx rfl (hb hby at_90) rfl (teq hc90_54).2 ?_
        show Steps p.tables e below (T52.setTop (mkF m 93 #[.val (.int p0), .val (.int p1), .val (.int ((p0 &&& (2147483647 : Int32)) % (9 : Int32))), .val (.int ((p1 &&& (2147483647 : Int32)) % (9 : Int32))), .val (.ref r_36), .val (.ref r_37), .val (.int (own_f_rmBR r_36 o8)), .val (.int (own_f_rmBR r_37 o8)), .val (.int (own_f_rmK ((p0 &&& (2147483647 : Int32)) % (9 : Int32)))), .val (.int (own_f_rmK ((p1 &&& (2147483647 : Int32)) % (9 : Int32)))), .val (.int (own_f_rmBR r_37 o8)), .val (.int (1 : Int32))] [])) _
        refine XS.iload X52.here hx rfl (hb hby at_93) rfl ?_
        show Steps p.tables e below (T52.setTop (mkF m 95 #[.val (.int p0), .val (.int p1), .val (.int ((p0 &&& (2147483647 : Int32)) % (9 : Int32))), .val (.int ((p1 &&& (2147483647 : Int32)) % (9 : Int32))), .val (.ref r_36), .val (.ref r_37), .val (.int (own_f_rmBR r_36 o8)), .val (.int (own_f_rmBR r_37 o8)), .val (.int (own_f_rmK ((p0 &&& (2147483647 : Int32)) % (9 : Int32)))), .val (.int (own_f_rmK ((p1 &&& (2147483647 : Int32)) % (9 : Int32)))), .val (.int (own_f_rmBR r_37 o8)), .val (.int (1 : Int32))] [(.int (own_f_rmBR r_37 o8))])) _
        refine XS.iload X52.here hx rfl (hb hby at_95) rfl ?_
        show Steps p.tables e below (T52.setTop (mkF m 97 #[.val (.int p0), .val (.int p1), .val (.int ((p0 &&& (2147483647 : Int32)) % (9 : Int32))), .val (.int ((p1 &&& (2147483647 : Int32)) % (9 : Int32))), .val (.ref r_36), .val (.ref r_37), .val (.int (own_f_rmBR r_36 o8)), .val (.int (own_f_rmBR r_37 o8)), .val (.int (own_f_rmK ((p0 &&& (2147483647 : Int32)) % (9 : Int32)))), .val (.int (own_f_rmK ((p1 &&& (2147483647 : Int32)) % (9 : Int32)))), .val (.int (own_f_rmBR r_37 o8)), .val (.int (1 : Int32))] [(.int (own_f_rmK ((p1 &&& (2147483647 : Int32)) % (9 : Int32)))), (.int (own_f_rmBR r_37 o8))])) _
        refine XS.icmpNo X52.here hx rfl (hb hby at_97) rfl (teq hc97_55).2 ?_
        show Steps p.tables e below (T52.setTop (mkF m 100 #[.val (.int p0), .val (.int p1), .val (.int ((p0 &&& (2147483647 : Int32)) % (9 : Int32))), .val (.int ((p1 &&& (2147483647 : Int32)) % (9 : Int32))), .val (.ref r_36), .val (.ref r_37), .val (.int (own_f_rmBR r_36 o8)), .val (.int (own_f_rmBR r_37 o8)), .val (.int (own_f_rmK ((p0 &&& (2147483647 : Int32)) % (9 : Int32)))), .val (.int (own_f_rmK ((p1 &&& (2147483647 : Int32)) % (9 : Int32)))), .val (.int (own_f_rmBR r_37 o8)), .val (.int (1 : Int32))] [])) _
        refine XS.iload X52.here hx rfl (hb hby at_100) rfl ?_
        show Steps p.tables e below (T52.setTop (mkF m 102 #[.val (.int p0), .val (.int p1), .val (.int ((p0 &&& (2147483647 : Int32)) % (9 : Int32))), .val (.int ((p1 &&& (2147483647 : Int32)) % (9 : Int32))), .val (.ref r_36), .val (.ref r_37), .val (.int (own_f_rmBR r_36 o8)), .val (.int (own_f_rmBR r_37 o8)), .val (.int (own_f_rmK ((p0 &&& (2147483647 : Int32)) % (9 : Int32)))), .val (.int (own_f_rmK ((p1 &&& (2147483647 : Int32)) % (9 : Int32)))), .val (.int (own_f_rmBR r_37 o8)), .val (.int (1 : Int32))] [(.int (own_f_rmBR r_37 o8))])) _
        refine XS.iload X52.here hx rfl (hb hby at_102) rfl ?_
        show Steps p.tables e below (T52.setTop (mkF m 104 #[.val (.int p0), .val (.int p1), .val (.int ((p0 &&& (2147483647 : Int32)) % (9 : Int32))), .val (.int ((p1 &&& (2147483647 : Int32)) % (9 : Int32))), .val (.ref r_36), .val (.ref r_37), .val (.int (own_f_rmBR r_36 o8)), .val (.int (own_f_rmBR r_37 o8)), .val (.int (own_f_rmK ((p0 &&& (2147483647 : Int32)) % (9 : Int32)))), .val (.int (own_f_rmK ((p1 &&& (2147483647 : Int32)) % (9 : Int32)))), .val (.int (own_f_rmBR r_37 o8)), .val (.int (1 : Int32))] [(.int (own_f_rmK ((p0 &&& (2147483647 : Int32)) % (9 : Int32)))), (.int (own_f_rmBR r_37 o8))])) _
        refine XS.ifNo X52.here hx rfl (hb hby at_104) rfl ((if0 _ _).trans (teq hc104_56).2) ?_
        show Steps p.tables e below (T52.setTop (mkF m 107 #[.val (.int p0), .val (.int p1), .val (.int ((p0 &&& (2147483647 : Int32)) % (9 : Int32))), .val (.int ((p1 &&& (2147483647 : Int32)) % (9 : Int32))), .val (.ref r_36), .val (.ref r_37), .val (.int (own_f_rmBR r_36 o8)), .val (.int (own_f_rmBR r_37 o8)), .val (.int (own_f_rmK ((p0 &&& (2147483647 : Int32)) % (9 : Int32)))), .val (.int (own_f_rmK ((p1 &&& (2147483647 : Int32)) % (9 : Int32)))), .val (.int (own_f_rmBR r_37 o8)), .val (.int (1 : Int32))] [(.int (own_f_rmBR r_37 o8))])) _
        refine XS.iload X52.here hx rfl (hb hby at_107) rfl ?_
        exact k
      by_cases hc109 : (own_f_rmK ((p1 &&& (2147483647 : Int32)) % (9 : Int32))) = (0 : Int32)
      · have hc117_58 : (own_f_rmBR r_37 o8) = (0 : Int32) := (own_br _ _ _ i37_6).trans hc109
        obtain ⟨fs, hr, hrun, hended, hW, hsame⟩ := X52.leave (v := some (.int (1 : Int32))) (fun h => by rw [Bd.returns] at h; cases h)
        refine ⟨_, _, pre57 _ ?_, hrun, hended, _, _, rfl, ?_, ⟨_, rfl⟩, hW, hsame.mono (by decide) (by decide)⟩
        · show Steps p.tables e below (T52.setTop (mkF m 109 #[.val (.int p0), .val (.int p1), .val (.int ((p0 &&& (2147483647 : Int32)) % (9 : Int32))), .val (.int ((p1 &&& (2147483647 : Int32)) % (9 : Int32))), .val (.ref r_36), .val (.ref r_37), .val (.int (own_f_rmBR r_36 o8)), .val (.int (own_f_rmBR r_37 o8)), .val (.int (own_f_rmK ((p0 &&& (2147483647 : Int32)) % (9 : Int32)))), .val (.int (own_f_rmK ((p1 &&& (2147483647 : Int32)) % (9 : Int32)))), .val (.int (own_f_rmBR r_37 o8)), .val (.int (1 : Int32))] [(.int (own_f_rmK ((p1 &&& (2147483647 : Int32)) % (9 : Int32)))), (.int (own_f_rmBR r_37 o8))])) _
          refine XS.ifYes X52.here hx rfl (pc0 := 109) (pc' := 116) rfl (hb hby at_109) rfl ((if0 _ _).trans (teq hc109).1) (by decide) (by decide) ?_
          show Steps p.tables e below (T52.setTop (mkF m 116 #[.val (.int p0), .val (.int p1), .val (.int ((p0 &&& (2147483647 : Int32)) % (9 : Int32))), .val (.int ((p1 &&& (2147483647 : Int32)) % (9 : Int32))), .val (.ref r_36), .val (.ref r_37), .val (.int (own_f_rmBR r_36 o8)), .val (.int (own_f_rmBR r_37 o8)), .val (.int (own_f_rmK ((p0 &&& (2147483647 : Int32)) % (9 : Int32)))), .val (.int (own_f_rmK ((p1 &&& (2147483647 : Int32)) % (9 : Int32)))), .val (.int (own_f_rmBR r_37 o8)), .val (.int (1 : Int32))] [(.int (own_f_rmBR r_37 o8))])) _
          refine XS.iconst X52.here hx rfl (hb hby at_116) ?_
          show Steps p.tables e below (T52.setTop (mkF m 117 #[.val (.int p0), .val (.int p1), .val (.int ((p0 &&& (2147483647 : Int32)) % (9 : Int32))), .val (.int ((p1 &&& (2147483647 : Int32)) % (9 : Int32))), .val (.ref r_36), .val (.ref r_37), .val (.int (own_f_rmBR r_36 o8)), .val (.int (own_f_rmBR r_37 o8)), .val (.int (own_f_rmK ((p0 &&& (2147483647 : Int32)) % (9 : Int32)))), .val (.int (own_f_rmK ((p1 &&& (2147483647 : Int32)) % (9 : Int32)))), .val (.int (own_f_rmBR r_37 o8)), .val (.int (1 : Int32))] [(.int (0 : Int32)), (.int (own_f_rmBR r_37 o8))])) _
          refine XS.icmpNo X52.here hx rfl (hb hby at_117) rfl (teq hc117_58).2 ?_
          show Steps p.tables e below (T52.setTop (mkF m 120 #[.val (.int p0), .val (.int p1), .val (.int ((p0 &&& (2147483647 : Int32)) % (9 : Int32))), .val (.int ((p1 &&& (2147483647 : Int32)) % (9 : Int32))), .val (.ref r_36), .val (.ref r_37), .val (.int (own_f_rmBR r_36 o8)), .val (.int (own_f_rmBR r_37 o8)), .val (.int (own_f_rmK ((p0 &&& (2147483647 : Int32)) % (9 : Int32)))), .val (.int (own_f_rmK ((p1 &&& (2147483647 : Int32)) % (9 : Int32)))), .val (.int (own_f_rmBR r_37 o8)), .val (.int (1 : Int32))] [])) _
          refine XS.iload X52.here hx rfl (hb hby at_120) rfl ?_
          show Steps p.tables e below (T52.setTop (mkF m 122 #[.val (.int p0), .val (.int p1), .val (.int ((p0 &&& (2147483647 : Int32)) % (9 : Int32))), .val (.int ((p1 &&& (2147483647 : Int32)) % (9 : Int32))), .val (.ref r_36), .val (.ref r_37), .val (.int (own_f_rmBR r_36 o8)), .val (.int (own_f_rmBR r_37 o8)), .val (.int (own_f_rmK ((p0 &&& (2147483647 : Int32)) % (9 : Int32)))), .val (.int (own_f_rmK ((p1 &&& (2147483647 : Int32)) % (9 : Int32)))), .val (.int (own_f_rmBR r_37 o8)), .val (.int (1 : Int32))] [(.int (1 : Int32))])) _
          refine XS.ifNo X52.here hx rfl (hb hby at_122) rfl ((if0 _ _).trans (feq (by decide : ¬ ((1 : Int32) = (0 : Int32)))).1) ?_
          show Steps p.tables e below (T52.setTop (mkF m 125 #[.val (.int p0), .val (.int p1), .val (.int ((p0 &&& (2147483647 : Int32)) % (9 : Int32))), .val (.int ((p1 &&& (2147483647 : Int32)) % (9 : Int32))), .val (.ref r_36), .val (.ref r_37), .val (.int (own_f_rmBR r_36 o8)), .val (.int (own_f_rmBR r_37 o8)), .val (.int (own_f_rmK ((p0 &&& (2147483647 : Int32)) % (9 : Int32)))), .val (.int (own_f_rmK ((p1 &&& (2147483647 : Int32)) % (9 : Int32)))), .val (.int (own_f_rmBR r_37 o8)), .val (.int (1 : Int32))] [])) _
          refine XS.iconst X52.here hx rfl (hb hby at_125) ?_
          show Steps p.tables e below (T52.setTop (mkF m 126 #[.val (.int p0), .val (.int p1), .val (.int ((p0 &&& (2147483647 : Int32)) % (9 : Int32))), .val (.int ((p1 &&& (2147483647 : Int32)) % (9 : Int32))), .val (.ref r_36), .val (.ref r_37), .val (.int (own_f_rmBR r_36 o8)), .val (.int (own_f_rmBR r_37 o8)), .val (.int (own_f_rmK ((p0 &&& (2147483647 : Int32)) % (9 : Int32)))), .val (.int (own_f_rmK ((p1 &&& (2147483647 : Int32)) % (9 : Int32)))), .val (.int (own_f_rmBR r_37 o8)), .val (.int (1 : Int32))] [(.int (1 : Int32))])) _
          refine XS.goto X52.here hx rfl (pc0 := 126) (pc' := 130) rfl (hb hby at_126) (by decide) (by decide) ?_
          show Steps p.tables e below (T52.setTop (mkF m 130 #[.val (.int p0), .val (.int p1), .val (.int ((p0 &&& (2147483647 : Int32)) % (9 : Int32))), .val (.int ((p1 &&& (2147483647 : Int32)) % (9 : Int32))), .val (.ref r_36), .val (.ref r_37), .val (.int (own_f_rmBR r_36 o8)), .val (.int (own_f_rmBR r_37 o8)), .val (.int (own_f_rmK ((p0 &&& (2147483647 : Int32)) % (9 : Int32)))), .val (.int (own_f_rmK ((p1 &&& (2147483647 : Int32)) % (9 : Int32)))), .val (.int (own_f_rmBR r_37 o8)), .val (.int (1 : Int32))] [(.int (1 : Int32))])) _
          exact retN X52 hx (t := .boolean) Bd.returns (by simp) (hb hby at_130) hr
        · show Q0 Z p0 p1 o0 o1 o2 o3 o4 o5 o6 o7 o8 mr h0 n0 _ T52.heap _
          rw [e52]
          exact ⟨rfl, N52⟩
      · have hc117_59 : (own_f_rmBR r_37 o8) = (1 : Int32) := (own_br _ _ _ i37_6).trans (own_k1 _ hc109)
        obtain ⟨fs, hr, hrun, hended, hW, hsame⟩ := X52.leave (v := some (.int (1 : Int32))) (fun h => by rw [Bd.returns] at h; cases h)
        refine ⟨_, _, pre57 _ ?_, hrun, hended, _, _, rfl, ?_, ⟨_, rfl⟩, hW, hsame.mono (by decide) (by decide)⟩
        · show Steps p.tables e below (T52.setTop (mkF m 109 #[.val (.int p0), .val (.int p1), .val (.int ((p0 &&& (2147483647 : Int32)) % (9 : Int32))), .val (.int ((p1 &&& (2147483647 : Int32)) % (9 : Int32))), .val (.ref r_36), .val (.ref r_37), .val (.int (own_f_rmBR r_36 o8)), .val (.int (own_f_rmBR r_37 o8)), .val (.int (own_f_rmK ((p0 &&& (2147483647 : Int32)) % (9 : Int32)))), .val (.int (own_f_rmK ((p1 &&& (2147483647 : Int32)) % (9 : Int32)))), .val (.int (own_f_rmBR r_37 o8)), .val (.int (1 : Int32))] [(.int (own_f_rmK ((p1 &&& (2147483647 : Int32)) % (9 : Int32)))), (.int (own_f_rmBR r_37 o8))])) _
          refine XS.ifNo X52.here hx rfl (hb hby at_109) rfl ((if0 _ _).trans (feq hc109).1) ?_
          show Steps p.tables e below (T52.setTop (mkF m 112 #[.val (.int p0), .val (.int p1), .val (.int ((p0 &&& (2147483647 : Int32)) % (9 : Int32))), .val (.int ((p1 &&& (2147483647 : Int32)) % (9 : Int32))), .val (.ref r_36), .val (.ref r_37), .val (.int (own_f_rmBR r_36 o8)), .val (.int (own_f_rmBR r_37 o8)), .val (.int (own_f_rmK ((p0 &&& (2147483647 : Int32)) % (9 : Int32)))), .val (.int (own_f_rmK ((p1 &&& (2147483647 : Int32)) % (9 : Int32)))), .val (.int (own_f_rmBR r_37 o8)), .val (.int (1 : Int32))] [(.int (own_f_rmBR r_37 o8))])) _
          refine XS.iconst X52.here hx rfl (hb hby at_112) ?_
          show Steps p.tables e below (T52.setTop (mkF m 113 #[.val (.int p0), .val (.int p1), .val (.int ((p0 &&& (2147483647 : Int32)) % (9 : Int32))), .val (.int ((p1 &&& (2147483647 : Int32)) % (9 : Int32))), .val (.ref r_36), .val (.ref r_37), .val (.int (own_f_rmBR r_36 o8)), .val (.int (own_f_rmBR r_37 o8)), .val (.int (own_f_rmK ((p0 &&& (2147483647 : Int32)) % (9 : Int32)))), .val (.int (own_f_rmK ((p1 &&& (2147483647 : Int32)) % (9 : Int32)))), .val (.int (own_f_rmBR r_37 o8)), .val (.int (1 : Int32))] [(.int (1 : Int32)), (.int (own_f_rmBR r_37 o8))])) _
          refine XS.goto X52.here hx rfl (pc0 := 113) (pc' := 117) rfl (hb hby at_113) (by decide) (by decide) ?_
          show Steps p.tables e below (T52.setTop (mkF m 117 #[.val (.int p0), .val (.int p1), .val (.int ((p0 &&& (2147483647 : Int32)) % (9 : Int32))), .val (.int ((p1 &&& (2147483647 : Int32)) % (9 : Int32))), .val (.ref r_36), .val (.ref r_37), .val (.int (own_f_rmBR r_36 o8)), .val (.int (own_f_rmBR r_37 o8)), .val (.int (own_f_rmK ((p0 &&& (2147483647 : Int32)) % (9 : Int32)))), .val (.int (own_f_rmK ((p1 &&& (2147483647 : Int32)) % (9 : Int32)))), .val (.int (own_f_rmBR r_37 o8)), .val (.int (1 : Int32))] [(.int (1 : Int32)), (.int (own_f_rmBR r_37 o8))])) _
          refine XS.icmpNo X52.here hx rfl (hb hby at_117) rfl (teq hc117_59).2 ?_
          show Steps p.tables e below (T52.setTop (mkF m 120 #[.val (.int p0), .val (.int p1), .val (.int ((p0 &&& (2147483647 : Int32)) % (9 : Int32))), .val (.int ((p1 &&& (2147483647 : Int32)) % (9 : Int32))), .val (.ref r_36), .val (.ref r_37), .val (.int (own_f_rmBR r_36 o8)), .val (.int (own_f_rmBR r_37 o8)), .val (.int (own_f_rmK ((p0 &&& (2147483647 : Int32)) % (9 : Int32)))), .val (.int (own_f_rmK ((p1 &&& (2147483647 : Int32)) % (9 : Int32)))), .val (.int (own_f_rmBR r_37 o8)), .val (.int (1 : Int32))] [])) _
          refine XS.iload X52.here hx rfl (hb hby at_120) rfl ?_
          show Steps p.tables e below (T52.setTop (mkF m 122 #[.val (.int p0), .val (.int p1), .val (.int ((p0 &&& (2147483647 : Int32)) % (9 : Int32))), .val (.int ((p1 &&& (2147483647 : Int32)) % (9 : Int32))), .val (.ref r_36), .val (.ref r_37), .val (.int (own_f_rmBR r_36 o8)), .val (.int (own_f_rmBR r_37 o8)), .val (.int (own_f_rmK ((p0 &&& (2147483647 : Int32)) % (9 : Int32)))), .val (.int (own_f_rmK ((p1 &&& (2147483647 : Int32)) % (9 : Int32)))), .val (.int (own_f_rmBR r_37 o8)), .val (.int (1 : Int32))] [(.int (1 : Int32))])) _
          refine XS.ifNo X52.here hx rfl (hb hby at_122) rfl ((if0 _ _).trans (feq (by decide : ¬ ((1 : Int32) = (0 : Int32)))).1) ?_
          show Steps p.tables e below (T52.setTop (mkF m 125 #[.val (.int p0), .val (.int p1), .val (.int ((p0 &&& (2147483647 : Int32)) % (9 : Int32))), .val (.int ((p1 &&& (2147483647 : Int32)) % (9 : Int32))), .val (.ref r_36), .val (.ref r_37), .val (.int (own_f_rmBR r_36 o8)), .val (.int (own_f_rmBR r_37 o8)), .val (.int (own_f_rmK ((p0 &&& (2147483647 : Int32)) % (9 : Int32)))), .val (.int (own_f_rmK ((p1 &&& (2147483647 : Int32)) % (9 : Int32)))), .val (.int (own_f_rmBR r_37 o8)), .val (.int (1 : Int32))] [])) _
          refine XS.iconst X52.here hx rfl (hb hby at_125) ?_
          show Steps p.tables e below (T52.setTop (mkF m 126 #[.val (.int p0), .val (.int p1), .val (.int ((p0 &&& (2147483647 : Int32)) % (9 : Int32))), .val (.int ((p1 &&& (2147483647 : Int32)) % (9 : Int32))), .val (.ref r_36), .val (.ref r_37), .val (.int (own_f_rmBR r_36 o8)), .val (.int (own_f_rmBR r_37 o8)), .val (.int (own_f_rmK ((p0 &&& (2147483647 : Int32)) % (9 : Int32)))), .val (.int (own_f_rmK ((p1 &&& (2147483647 : Int32)) % (9 : Int32)))), .val (.int (own_f_rmBR r_37 o8)), .val (.int (1 : Int32))] [(.int (1 : Int32))])) _
          refine XS.goto X52.here hx rfl (pc0 := 126) (pc' := 130) rfl (hb hby at_126) (by decide) (by decide) ?_
          show Steps p.tables e below (T52.setTop (mkF m 130 #[.val (.int p0), .val (.int p1), .val (.int ((p0 &&& (2147483647 : Int32)) % (9 : Int32))), .val (.int ((p1 &&& (2147483647 : Int32)) % (9 : Int32))), .val (.ref r_36), .val (.ref r_37), .val (.int (own_f_rmBR r_36 o8)), .val (.int (own_f_rmBR r_37 o8)), .val (.int (own_f_rmK ((p0 &&& (2147483647 : Int32)) % (9 : Int32)))), .val (.int (own_f_rmK ((p1 &&& (2147483647 : Int32)) % (9 : Int32)))), .val (.int (own_f_rmBR r_37 o8)), .val (.int (1 : Int32))] [(.int (1 : Int32))])) _
          exact retN X52 hx (t := .boolean) Bd.returns (by simp) (hb hby at_130) hr
        · show Q0 Z p0 p1 o0 o1 o2 o3 o4 o5 o6 o7 o8 mr h0 n0 _ T52.heap _
          rw [e52]
          exact ⟨rfl, N52⟩
  · have er : r_42 = r_36 := i42_4.trans (if_neg hm)
    obtain ⟨cq60, kq60, q60a, q60b, q60c⟩ := isOf hZ e42 i36_4
    obtain ⟨_, _, ⟨T60, L60, k60, n60⟩, -, X60, ⟨Lc60, hQ60, l60, y60, z60⟩, st60⟩ := X42.virtualBack hx (y := (⟨"com/example/alterlint/alterlint/model/LockMode", "blocksReads", "()Z"⟩ : MethodName)) (z := (⟨"com/example/alterlint/alterlint/model/LockMode", "blocksReads", "()Z"⟩ : MethodName)) hown (mvT hZ (hw _ (List.mem_of_getElem? (i := 10) rfl))) (mvT hZ (hw _ (List.mem_of_getElem? (i := 11) rfl))) (notFace_of_selects (args := #[]) (mvT hZ (hw _ (List.mem_of_getElem? (i := 13) rfl)))) (mvT hZ (hw _ (List.mem_of_getElem? (i := 13) rfl))) (mvT hZ (hw _ (List.mem_of_getElem? (i := 12) rfl))) (by decide) (backOf (W := 0) (rmBR l Z a0 hw [] r_36 o8 h0 n0 (Nat.le_trans Z0 K0.1) S_ACCESS_EXCLUSIVE) hZ (hw _ (List.mem_of_getElem? (i := 14) rfl)) (hw _ (List.mem_of_getElem? (i := 6) rfl)) (by decide) (by decide)) q60a q60c (g := (mkF m 61 #[.val (.int p0), .val (.int p1), .val (.int ((p0 &&& (2147483647 : Int32)) % (9 : Int32))), .val (.int ((p1 &&& (2147483647 : Int32)) % (9 : Int32))), .val (.ref r_36), .val (.ref r_37), .val (.int (own_f_rmBR r_36 o8)), .val (.int (own_f_rmBR r_37 o8)), .val (.int (own_f_rmK ((p0 &&& (2147483647 : Int32)) % (9 : Int32)))), .val (.int (own_f_rmK ((p1 &&& (2147483647 : Int32)) % (9 : Int32)))), .unset, .unset] [(.ref r_36)])) rfl (by rw [hml]; rfl) (Steps.refl _) (argsL := []) (rest := []) (lenOf own_pd2 rfl) rfl (by show 2 * 0 + _ ≤ _; exact Nat.le_of_eq rfl) (hb hby at_61) (fun _ _ => ⟨rfl, e42, (by decide : 0 + 0 ≤ _), (by decide : 0 + 0 ≤ _)⟩)
    dsimp only [Pt.U, Pt.locs, Pt.cells, Pt.slots] at X60 l60 y60 z60 st60 hQ60
    subst l60 y60 z60
    obtain ⟨rfl, N60q, e60⟩ := hQ60
    have N60 := Fr.app N42 N60q
    have pre61 : ∀ t, Steps p.tables e below (T60.setTop (mkF m 68 #[.val (.int p0), .val (.int p1), .val (.int ((p0 &&& (2147483647 : Int32)) % (9 : Int32))), .val (.int ((p1 &&& (2147483647 : Int32)) % (9 : Int32))), .val (.ref r_36), .val (.ref r_37), .val (.int (own_f_rmBR r_36 o8)), .val (.int (own_f_rmBR r_37 o8)), .val (.int (own_f_rmK ((p0 &&& (2147483647 : Int32)) % (9 : Int32)))), .val (.int (own_f_rmK ((p1 &&& (2147483647 : Int32)) % (9 : Int32)))), .val (.int (own_f_rmBR r_36 o8)), .unset] [(.int (own_f_rmBR r_36 o8))])) t → Steps p.tables e below (s₁.setTop (entryFrame m #[(.int p0), (.int p1)] maxLocals)) t := fun t k => by
      refine pre43 _ ?_
      show Steps p.tables e below (T42.setTop (mkF m 61 #[.val (.int p0), .val (.int p1), .val (.int ((p0 &&& (2147483647 : Int32)) % (9 : Int32))), .val (.int ((p1 &&& (2147483647 : Int32)) % (9 : Int32))), .val (.ref r_36), .val (.ref r_37), .val (.int (own_f_rmBR r_36 o8)), .val (.int (own_f_rmBR r_37 o8)), .val (.int (own_f_rmK ((p0 &&& (2147483647 : Int32)) % (9 : Int32)))), .val (.int (own_f_rmK ((p1 &&& (2147483647 : Int32)) % (9 : Int32)))), .unset, .unset] [(.ref r_42)])) _
      rw [er]
      show Steps p.tables e below (T42.setTop (mkF m 61 #[.val (.int p0), .val (.int p1), .val (.int ((p0 &&& (2147483647 : Int32)) % (9 : Int32))), .val (.int ((p1 &&& (2147483647 : Int32)) % (9 : Int32))), .val (.ref r_36), .val (.ref r_37), .val (.int (own_f_rmBR r_36 o8)), .val (.int (own_f_rmBR r_37 o8)), .val (.int (own_f_rmK ((p0 &&& (2147483647 : Int32)) % (9 : Int32)))), .val (.int (own_f_rmK ((p1 &&& (2147483647 : Int32)) % (9 : Int32)))), .unset, .unset] [(.ref r_36)])) _
      refine st60.trans ?_
      show Steps p.tables e below (T60.setTop (mkF m 64 #[.val (.int p0), .val (.int p1), .val (.int ((p0 &&& (2147483647 : Int32)) % (9 : Int32))), .val (.int ((p1 &&& (2147483647 : Int32)) % (9 : Int32))), .val (.ref r_36), .val (.ref r_37), .val (.int (own_f_rmBR r_36 o8)), .val (.int (own_f_rmBR r_37 o8)), .val (.int (own_f_rmK ((p0 &&& (2147483647 : Int32)) % (9 : Int32)))), .val (.int (own_f_rmK ((p1 &&& (2147483647 : Int32)) % (9 : Int32)))), .unset, .unset] [(.int (own_f_rmBR r_36 o8))])) _
      refine XS.istore X60.here hx rfl (hb hby at_64) rfl (l' := #[.val (.int p0), .val (.int p1), .val (.int ((p0 &&& (2147483647 : Int32)) % (9 : Int32))), .val (.int ((p1 &&& (2147483647 : Int32)) % (9 : Int32))), .val (.ref r_36), .val (.ref r_37), .val (.int (own_f_rmBR r_36 o8)), .val (.int (own_f_rmBR r_37 o8)), .val (.int (own_f_rmK ((p0 &&& (2147483647 : Int32)) % (9 : Int32)))), .val (.int (own_f_rmK ((p1 &&& (2147483647 : Int32)) % (9 : Int32)))), .val (.int (own_f_rmBR r_36 o8)), .unset]) rfl ?_
      show Steps p.tables e below (T60.setTop (mkF m 66 #[.val (.int p0), .val (.int p1), .val (.int ((p0 &&& (2147483647 : Int32)) % (9 : Int32))), .val (.int ((p1 &&& (2147483647 : Int32)) % (9 : Int32))), .val (.ref r_36), .val (.ref r_37), .val (.int (own_f_rmBR r_36 o8)), .val (.int (own_f_rmBR r_37 o8)), .val (.int (own_f_rmK ((p0 &&& (2147483647 : Int32)) % (9 : Int32)))), .val (.int (own_f_rmK ((p1 &&& (2147483647 : Int32)) % (9 : Int32)))), .val (.int (own_f_rmBR r_36 o8)), .unset] [])) _
      refine XS.iload X60.here hx rfl (hb hby at_66) rfl ?_
      exact k
    by_cases hc68 : (own_f_rmBR r_36 o8) = (0 : Int32)
    · have hc90_62 : (own_f_rmBR r_36 o8) = (own_f_rmK ((p0 &&& (2147483647 : Int32)) % (9 : Int32))) := own_br _ _ _ i36_6
      have hc97_63 : (own_f_rmBR r_37 o8) = (own_f_rmK ((p1 &&& (2147483647 : Int32)) % (9 : Int32))) := own_br _ _ _ i37_6
      have hc104_64 : (own_f_rmK ((p0 &&& (2147483647 : Int32)) % (9 : Int32))) = (0 : Int32) := (own_br _ _ _ i36_6).symm.trans hc68
      have hc109_65 : (own_f_rmK ((p1 &&& (2147483647 : Int32)) % (9 : Int32))) = (0 : Int32) := Classical.byContradiction fun q => own_m2 _ _ (own_k9 p0) (own_k9 p1) hm q hc104_64
      obtain ⟨fs, hr, hrun, hended, hW, hsame⟩ := X60.leave (v := some (.int (1 : Int32))) (fun h => by rw [Bd.returns] at h; cases h)
      refine ⟨_, _, pre61 _ ?_, hrun, hended, _, _, rfl, ?_, ⟨_, rfl⟩, hW, hsame.mono (by decide) (by decide)⟩
      · show Steps p.tables e below (T60.setTop (mkF m 68 #[.val (.int p0), .val (.int p1), .val (.int ((p0 &&& (2147483647 : Int32)) % (9 : Int32))), .val (.int ((p1 &&& (2147483647 : Int32)) % (9 : Int32))), .val (.ref r_36), .val (.ref r_37), .val (.int (own_f_rmBR r_36 o8)), .val (.int (own_f_rmBR r_37 o8)), .val (.int (own_f_rmK ((p0 &&& (2147483647 : Int32)) % (9 : Int32)))), .val (.int (own_f_rmK ((p1 &&& (2147483647 : Int32)) % (9 : Int32)))), .val (.int (own_f_rmBR r_36 o8)), .unset] [(.int (own_f_rmBR r_36 o8))])) _
        refine XS.ifYes X60.here hx rfl (pc0 := 68) (pc' := 79) rfl (hb hby at_68) rfl ((if0 _ _).trans (teq hc68).1) (by decide) (by decide) ?_
        show Steps p.tables e below (T60.setTop (mkF m 79 #[.val (.int p0), .val (.int p1), .val (.int ((p0 &&& (2147483647 : Int32)) % (9 : Int32))), .val (.int ((p1 &&& (2147483647 : Int32)) % (9 : Int32))), .val (.ref r_36), .val (.ref r_37), .val (.int (own_f_rmBR r_36 o8)), .val (.int (own_f_rmBR r_37 o8)), .val (.int (own_f_rmK ((p0 &&& (2147483647 : Int32)) % (9 : Int32)))), .val (.int (own_f_rmK ((p1 &&& (2147483647 : Int32)) % (9 : Int32)))), .val (.int (own_f_rmBR r_36 o8)), .unset] [])) _
        refine XS.iconst X60.here hx rfl (hb hby at_79) ?_
        show Steps p.tables e below (T60.setTop (mkF m 80 #[.val (.int p0), .val (.int p1), .val (.int ((p0 &&& (2147483647 : Int32)) % (9 : Int32))), .val (.int ((p1 &&& (2147483647 : Int32)) % (9 : Int32))), .val (.ref r_36), .val (.ref r_37), .val (.int (own_f_rmBR r_36 o8)), .val (.int (own_f_rmBR r_37 o8)), .val (.int (own_f_rmK ((p0 &&& (2147483647 : Int32)) % (9 : Int32)))), .val (.int (own_f_rmK ((p1 &&& (2147483647 : Int32)) % (9 : Int32)))), .val (.int (own_f_rmBR r_36 o8)), .unset] [(.int (1 : Int32))])) _
        refine XS.goto X60.here hx rfl (pc0 := 80) (pc' := 84) rfl (hb hby at_80) (by decide) (by decide) ?_
        show Steps p.tables e below (T60.setTop (mkF m 84 #[.val (.int p0), .val (.int p1), .val (.int ((p0 &&& (2147483647 : Int32)) % (9 : Int32))), .val (.int ((p1 &&& (2147483647 : Int32)) % (9 : Int32))), .val (.ref r_36), .val (.ref r_37), .val (.int (own_f_rmBR r_36 o8)), .val (.int (own_f_rmBR r_37 o8)), .val (.int (own_f_rmK ((p0 &&& (2147483647 : Int32)) % (9 : Int32)))), .val (.int (own_f_rmK ((p1 &&& (2147483647 : Int32)) % (9 : Int32)))), .val (.int (own_f_rmBR r_36 o8)), .unset] [(.int (1 : Int32))])) _
        refine XS.istore X60.here hx rfl (hb hby at_84) rfl (l' := #[.val (.int p0), .val (.int p1), .val (.int ((p0 &&& (2147483647 : Int32)) % (9 : Int32))), .val (.int ((p1 &&& (2147483647 : Int32)) % (9 : Int32))), .val (.ref r_36), .val (.ref r_37), .val (.int (own_f_rmBR r_36 o8)), .val (.int (own_f_rmBR r_37 o8)), .val (.int (own_f_rmK ((p0 &&& (2147483647 : Int32)) % (9 : Int32)))), .val (.int (own_f_rmK ((p1 &&& (2147483647 : Int32)) % (9 : Int32)))), .val (.int (own_f_rmBR r_36 o8)), .val (.int (1 : Int32))]) rfl ?_
        show Steps p.tables e below (T60.setTop (mkF m 86 #[.val (.int p0), .val (.int p1), .val (.int ((p0 &&& (2147483647 : Int32)) % (9 : Int32))), .val (.int ((p1 &&& (2147483647 : Int32)) % (9 : Int32))), .val (.ref r_36), .val (.ref r_37), .val (.int (own_f_rmBR r_36 o8)), .val (.int (own_f_rmBR r_37 o8)), .val (.int (own_f_rmK ((p0 &&& (2147483647 : Int32)) % (9 : Int32)))), .val (.int (own_f_rmK ((p1 &&& (2147483647 : Int32)) % (9 : Int32)))), .val (.int (own_f_rmBR r_36 o8)), .val (.int (1 : Int32))] [])) _
        refine XS.iload X60.here hx rfl (hb hby at_86) rfl ?_
        show Steps p.tables e below (T60.setTop (mkF m 88 #[.val (.int p0), .val (.int p1), .val (.int ((p0 &&& (2147483647 : Int32)) % (9 : Int32))), .val (.int ((p1 &&& (2147483647 : Int32)) % (9 : Int32))), .val (.ref r_36), .val (.ref r_37), .val (.int (own_f_rmBR r_36 o8)), .val (.int (own_f_rmBR r_37 o8)), .val (.int (own_f_rmK ((p0 &&& (2147483647 : Int32)) % (9 : Int32)))), .val (.int (own_f_rmK ((p1 &&& (2147483647 : Int32)) % (9 : Int32)))), .val (.int (own_f_rmBR r_36 o8)), .val (.int (1 : Int32))] [(.int (own_f_rmBR r_36 o8))])) _
        refine XS.iload X60.here hx rfl (hb hby at_88) rfl ?_
        show Steps p.tables e below (T60.setTop (mkF m 90 #[.val (.int p0), .val (.int p1), .val (.int ((p0 &&& (2147483647 : Int32)) % (9 : Int32))), .val (.int ((p1 &&& (2147483647 : Int32)) % (9 : Int32))), .val (.ref r_36), .val (.ref r_37), .val (.int (own_f_rmBR r_36 o8)), .val (.int (own_f_rmBR r_37 o8)), .val (.int (own_f_rmK ((p0 &&& (2147483647 : Int32)) % (9 : Int32)))), .val (.int (own_f_rmK ((p1 &&& (2147483647 : Int32)) % (9 : Int32)))), .val (.int (own_f_rmBR r_36 o8)), .val (.int (1 : Int32))] [(.int (own_f_rmK ((p0 &&& (2147483647 : Int32)) % (9 : Int32)))), (.int (own_f_rmBR r_36 o8))])) _
        refine XS.icmpNo X60.here hx rfl (hb hby at_90) rfl (teq hc90_62).2 ?_
        show Steps p.tables e below (T60.setTop (mkF m 93 #[.val (.int p0), .val (.int p1), .val (.int ((p0 &&& (2147483647 : Int32)) % (9 : Int32))), .val (.int ((p1 &&& (2147483647 : Int32)) % (9 : Int32))), .val (.ref r_36), .val (.ref r_37), .val (.int (own_f_rmBR r_36 o8)), .val (.int (own_f_rmBR r_37 o8)), .val (.int (own_f_rmK ((p0 &&& (2147483647 : Int32)) % (9 : Int32)))), .val (.int (own_f_rmK ((p1 &&& (2147483647 : Int32)) % (9 : Int32)))), .val (.int (own_f_rmBR r_36 o8)), .val (.int (1 : Int32))] [])) _
        refine XS.iload X60.here hx rfl (hb hby at_93) rfl ?_
        show Steps p.tables e below (T60.setTop (mkF m 95 #[.val (.int p0), .val (.int p1), .val (.int ((p0 &&& (2147483647 : Int32)) % (9 : Int32))), .val (.int ((p1 &&& (2147483647 : Int32)) % (9 : Int32))), .val (.ref r_36), .val (.ref r_37), .val (.int (own_f_rmBR r_36 o8)), .val (.int (own_f_rmBR r_37 o8)), .val (.int (own_f_rmK ((p0 &&& (2147483647 : Int32)) % (9 : Int32)))), .val (.int (own_f_rmK ((p1 &&& (2147483647 : Int32)) % (9 : Int32)))), .val (.int (own_f_rmBR r_36 o8)), .val (.int (1 : Int32))] [(.int (own_f_rmBR r_37 o8))])) _
        refine XS.iload X60.here hx rfl (hb hby at_95) rfl ?_
        show Steps p.tables e below (T60.setTop (mkF m 97 #[.val (.int p0), .val (.int p1), .val (.int ((p0 &&& (2147483647 : Int32)) % (9 : Int32))), .val (.int ((p1 &&& (2147483647 : Int32)) % (9 : Int32))), .val (.ref r_36), .val (.ref r_37), .val (.int (own_f_rmBR r_36 o8)), .val (.int (own_f_rmBR r_37 o8)), .val (.int (own_f_rmK ((p0 &&& (2147483647 : Int32)) % (9 : Int32)))), .val (.int (own_f_rmK ((p1 &&& (2147483647 : Int32)) % (9 : Int32)))), .val (.int (own_f_rmBR r_36 o8)), .val (.int (1 : Int32))] [(.int (own_f_rmK ((p1 &&& (2147483647 : Int32)) % (9 : Int32)))), (.int (own_f_rmBR r_37 o8))])) _
        refine XS.icmpNo X60.here hx rfl (hb hby at_97) rfl (teq hc97_63).2 ?_
        show Steps p.tables e below (T60.setTop (mkF m 100 #[.val (.int p0), .val (.int p1), .val (.int ((p0 &&& (2147483647 : Int32)) % (9 : Int32))), .val (.int ((p1 &&& (2147483647 : Int32)) % (9 : Int32))), .val (.ref r_36), .val (.ref r_37), .val (.int (own_f_rmBR r_36 o8)), .val (.int (own_f_rmBR r_37 o8)), .val (.int (own_f_rmK ((p0 &&& (2147483647 : Int32)) % (9 : Int32)))), .val (.int (own_f_rmK ((p1 &&& (2147483647 : Int32)) % (9 : Int32)))), .val (.int (own_f_rmBR r_36 o8)), .val (.int (1 : Int32))] [])) _
        refine XS.iload X60.here hx rfl (hb hby at_100) rfl ?_
        show Steps p.tables e below (T60.setTop (mkF m 102 #[.val (.int p0), .val (.int p1), .val (.int ((p0 &&& (2147483647 : Int32)) % (9 : Int32))), .val (.int ((p1 &&& (2147483647 : Int32)) % (9 : Int32))), .val (.ref r_36), .val (.ref r_37), .val (.int (own_f_rmBR r_36 o8)), .val (.int (own_f_rmBR r_37 o8)), .val (.int (own_f_rmK ((p0 &&& (2147483647 : Int32)) % (9 : Int32)))), .val (.int (own_f_rmK ((p1 &&& (2147483647 : Int32)) % (9 : Int32)))), .val (.int (own_f_rmBR r_36 o8)), .val (.int (1 : Int32))] [(.int (own_f_rmBR r_36 o8))])) _
        refine XS.iload X60.here hx rfl (hb hby at_102) rfl ?_
        show Steps p.tables e below (T60.setTop (mkF m 104 #[.val (.int p0), .val (.int p1), .val (.int ((p0 &&& (2147483647 : Int32)) % (9 : Int32))), .val (.int ((p1 &&& (2147483647 : Int32)) % (9 : Int32))), .val (.ref r_36), .val (.ref r_37), .val (.int (own_f_rmBR r_36 o8)), .val (.int (own_f_rmBR r_37 o8)), .val (.int (own_f_rmK ((p0 &&& (2147483647 : Int32)) % (9 : Int32)))), .val (.int (own_f_rmK ((p1 &&& (2147483647 : Int32)) % (9 : Int32)))), .val (.int (own_f_rmBR r_36 o8)), .val (.int (1 : Int32))] [(.int (own_f_rmK ((p0 &&& (2147483647 : Int32)) % (9 : Int32)))), (.int (own_f_rmBR r_36 o8))])) _
        refine XS.ifNo X60.here hx rfl (hb hby at_104) rfl ((if0 _ _).trans (teq hc104_64).2) ?_
        show Steps p.tables e below (T60.setTop (mkF m 107 #[.val (.int p0), .val (.int p1), .val (.int ((p0 &&& (2147483647 : Int32)) % (9 : Int32))), .val (.int ((p1 &&& (2147483647 : Int32)) % (9 : Int32))), .val (.ref r_36), .val (.ref r_37), .val (.int (own_f_rmBR r_36 o8)), .val (.int (own_f_rmBR r_37 o8)), .val (.int (own_f_rmK ((p0 &&& (2147483647 : Int32)) % (9 : Int32)))), .val (.int (own_f_rmK ((p1 &&& (2147483647 : Int32)) % (9 : Int32)))), .val (.int (own_f_rmBR r_36 o8)), .val (.int (1 : Int32))] [(.int (own_f_rmBR r_36 o8))])) _
        refine XS.iload X60.here hx rfl (hb hby at_107) rfl ?_
        show Steps p.tables e below (T60.setTop (mkF m 109 #[.val (.int p0), .val (.int p1), .val (.int ((p0 &&& (2147483647 : Int32)) % (9 : Int32))), .val (.int ((p1 &&& (2147483647 : Int32)) % (9 : Int32))), .val (.ref r_36), .val (.ref r_37), .val (.int (own_f_rmBR r_36 o8)), .val (.int (own_f_rmBR r_37 o8)), .val (.int (own_f_rmK ((p0 &&& (2147483647 : Int32)) % (9 : Int32)))), .val (.int (own_f_rmK ((p1 &&& (2147483647 : Int32)) % (9 : Int32)))), .val (.int (own_f_rmBR r_36 o8)), .val (.int (1 : Int32))] [(.int (own_f_rmK ((p1 &&& (2147483647 : Int32)) % (9 : Int32)))), (.int (own_f_rmBR r_36 o8))])) _
        refine XS.ifYes X60.here hx rfl (pc0 := 109) (pc' := 116) rfl (hb hby at_109) rfl ((if0 _ _).trans (teq hc109_65).1) (by decide) (by decide) ?_
        show Steps p.tables e below (T60.setTop (mkF m 116 #[.val (.int p0), .val (.int p1), .val (.int ((p0 &&& (2147483647 : Int32)) % (9 : Int32))), .val (.int ((p1 &&& (2147483647 : Int32)) % (9 : Int32))), .val (.ref r_36), .val (.ref r_37), .val (.int (own_f_rmBR r_36 o8)), .val (.int (own_f_rmBR r_37 o8)), .val (.int (own_f_rmK ((p0 &&& (2147483647 : Int32)) % (9 : Int32)))), .val (.int (own_f_rmK ((p1 &&& (2147483647 : Int32)) % (9 : Int32)))), .val (.int (own_f_rmBR r_36 o8)), .val (.int (1 : Int32))] [(.int (own_f_rmBR r_36 o8))])) _
        refine XS.iconst X60.here hx rfl (hb hby at_116) ?_
        show Steps p.tables e below (T60.setTop (mkF m 117 #[.val (.int p0), .val (.int p1), .val (.int ((p0 &&& (2147483647 : Int32)) % (9 : Int32))), .val (.int ((p1 &&& (2147483647 : Int32)) % (9 : Int32))), .val (.ref r_36), .val (.ref r_37), .val (.int (own_f_rmBR r_36 o8)), .val (.int (own_f_rmBR r_37 o8)), .val (.int (own_f_rmK ((p0 &&& (2147483647 : Int32)) % (9 : Int32)))), .val (.int (own_f_rmK ((p1 &&& (2147483647 : Int32)) % (9 : Int32)))), .val (.int (own_f_rmBR r_36 o8)), .val (.int (1 : Int32))] [(.int (0 : Int32)), (.int (own_f_rmBR r_36 o8))])) _
        refine XS.icmpNo X60.here hx rfl (hb hby at_117) rfl (teq hc68).2 ?_
        show Steps p.tables e below (T60.setTop (mkF m 120 #[.val (.int p0), .val (.int p1), .val (.int ((p0 &&& (2147483647 : Int32)) % (9 : Int32))), .val (.int ((p1 &&& (2147483647 : Int32)) % (9 : Int32))), .val (.ref r_36), .val (.ref r_37), .val (.int (own_f_rmBR r_36 o8)), .val (.int (own_f_rmBR r_37 o8)), .val (.int (own_f_rmK ((p0 &&& (2147483647 : Int32)) % (9 : Int32)))), .val (.int (own_f_rmK ((p1 &&& (2147483647 : Int32)) % (9 : Int32)))), .val (.int (own_f_rmBR r_36 o8)), .val (.int (1 : Int32))] [])) _
        refine XS.iload X60.here hx rfl (hb hby at_120) rfl ?_
        show Steps p.tables e below (T60.setTop (mkF m 122 #[.val (.int p0), .val (.int p1), .val (.int ((p0 &&& (2147483647 : Int32)) % (9 : Int32))), .val (.int ((p1 &&& (2147483647 : Int32)) % (9 : Int32))), .val (.ref r_36), .val (.ref r_37), .val (.int (own_f_rmBR r_36 o8)), .val (.int (own_f_rmBR r_37 o8)), .val (.int (own_f_rmK ((p0 &&& (2147483647 : Int32)) % (9 : Int32)))), .val (.int (own_f_rmK ((p1 &&& (2147483647 : Int32)) % (9 : Int32)))), .val (.int (own_f_rmBR r_36 o8)), .val (.int (1 : Int32))] [(.int (1 : Int32))])) _
        refine XS.ifNo X60.here hx rfl (hb hby at_122) rfl ((if0 _ _).trans (feq (by decide : ¬ ((1 : Int32) = (0 : Int32)))).1) ?_
        show Steps p.tables e below (T60.setTop (mkF m 125 #[.val (.int p0), .val (.int p1), .val (.int ((p0 &&& (2147483647 : Int32)) % (9 : Int32))), .val (.int ((p1 &&& (2147483647 : Int32)) % (9 : Int32))), .val (.ref r_36), .val (.ref r_37), .val (.int (own_f_rmBR r_36 o8)), .val (.int (own_f_rmBR r_37 o8)), .val (.int (own_f_rmK ((p0 &&& (2147483647 : Int32)) % (9 : Int32)))), .val (.int (own_f_rmK ((p1 &&& (2147483647 : Int32)) % (9 : Int32)))), .val (.int (own_f_rmBR r_36 o8)), .val (.int (1 : Int32))] [])) _
        refine XS.iconst X60.here hx rfl (hb hby at_125) ?_
        show Steps p.tables e below (T60.setTop (mkF m 126 #[.val (.int p0), .val (.int p1), .val (.int ((p0 &&& (2147483647 : Int32)) % (9 : Int32))), .val (.int ((p1 &&& (2147483647 : Int32)) % (9 : Int32))), .val (.ref r_36), .val (.ref r_37), .val (.int (own_f_rmBR r_36 o8)), .val (.int (own_f_rmBR r_37 o8)), .val (.int (own_f_rmK ((p0 &&& (2147483647 : Int32)) % (9 : Int32)))), .val (.int (own_f_rmK ((p1 &&& (2147483647 : Int32)) % (9 : Int32)))), .val (.int (own_f_rmBR r_36 o8)), .val (.int (1 : Int32))] [(.int (1 : Int32))])) _
        refine XS.goto X60.here hx rfl (pc0 := 126) (pc' := 130) rfl (hb hby at_126) (by decide) (by decide) ?_
        show Steps p.tables e below (T60.setTop (mkF m 130 #[.val (.int p0), .val (.int p1), .val (.int ((p0 &&& (2147483647 : Int32)) % (9 : Int32))), .val (.int ((p1 &&& (2147483647 : Int32)) % (9 : Int32))), .val (.ref r_36), .val (.ref r_37), .val (.int (own_f_rmBR r_36 o8)), .val (.int (own_f_rmBR r_37 o8)), .val (.int (own_f_rmK ((p0 &&& (2147483647 : Int32)) % (9 : Int32)))), .val (.int (own_f_rmK ((p1 &&& (2147483647 : Int32)) % (9 : Int32)))), .val (.int (own_f_rmBR r_36 o8)), .val (.int (1 : Int32))] [(.int (1 : Int32))])) _
        exact retN X60 hx (t := .boolean) Bd.returns (by simp) (hb hby at_130) hr
      · show Q0 Z p0 p1 o0 o1 o2 o3 o4 o5 o6 o7 o8 mr h0 n0 _ T60.heap _
        rw [e60]
        exact ⟨rfl, N60⟩
    · obtain ⟨cq66, kq66, q66a, q66b, q66c⟩ := isOf hZ e60 i36_4
      obtain ⟨_, _, ⟨T66, L66, k66, n66⟩, -, X66, ⟨Lc66, hQ66, l66, y66, z66⟩, st66⟩ := X60.virtualBack hx (y := (⟨"com/example/alterlint/alterlint/model/LockMode", "blocksWrites", "()Z"⟩ : MethodName)) (z := (⟨"com/example/alterlint/alterlint/model/LockMode", "blocksWrites", "()Z"⟩ : MethodName)) hown (mvT hZ (hw _ (List.mem_of_getElem? (i := 51) rfl))) (mvT hZ (hw _ (List.mem_of_getElem? (i := 52) rfl))) (notFace_of_selects (args := #[]) (mvT hZ (hw _ (List.mem_of_getElem? (i := 54) rfl)))) (mvT hZ (hw _ (List.mem_of_getElem? (i := 54) rfl))) (mvT hZ (hw _ (List.mem_of_getElem? (i := 53) rfl))) (by decide) (backOf (W := 0) (rmBW l Z a0 hw [] r_36 mr ((p0 &&& (2147483647 : Int32)) % (9 : Int32)) o5 h0 n0 (Nat.le_trans Z0 K0.1) i36_4 i36_5 S_SHARE E_o5 F_o5_ordinal M) hZ (hw _ (List.mem_of_getElem? (i := 55) rfl)) (hw _ (List.mem_of_getElem? (i := 6) rfl)) (by decide) (by decide)) q66a q66c (g := (mkF m 73 #[.val (.int p0), .val (.int p1), .val (.int ((p0 &&& (2147483647 : Int32)) % (9 : Int32))), .val (.int ((p1 &&& (2147483647 : Int32)) % (9 : Int32))), .val (.ref r_36), .val (.ref r_37), .val (.int (own_f_rmBR r_36 o8)), .val (.int (own_f_rmBR r_37 o8)), .val (.int (own_f_rmK ((p0 &&& (2147483647 : Int32)) % (9 : Int32)))), .val (.int (own_f_rmK ((p1 &&& (2147483647 : Int32)) % (9 : Int32)))), .val (.int (own_f_rmBR r_36 o8)), .unset] [(.ref r_36)])) rfl (by rw [hml]; rfl) (Steps.refl _) (argsL := []) (rest := []) (lenOf own_pd2 rfl) rfl (by show 2 * 0 + _ ≤ _; exact Nat.le_of_eq rfl) (hb hby at_73) (fun _ _ => ⟨rfl, e60, (by decide : 0 + 0 ≤ _), (by decide : 0 + 0 ≤ _)⟩)
      dsimp only [Pt.U, Pt.locs, Pt.cells, Pt.slots] at X66 l66 y66 z66 st66 hQ66
      subst l66 y66 z66
      obtain ⟨rfl, N66q, e66⟩ := hQ66
      have N66 := Fr.app N60 N66q
      have hc76_67 : ¬ ((own_f_rmBW ((p0 &&& (2147483647 : Int32)) % (9 : Int32))) = (0 : Int32)) := own_bw _ _ _ i36_6 hc68
      have hc90_68 : (own_f_rmBR r_36 o8) = (own_f_rmK ((p0 &&& (2147483647 : Int32)) % (9 : Int32))) := own_br _ _ _ i36_6
      have hc97_69 : (own_f_rmBR r_37 o8) = (own_f_rmK ((p1 &&& (2147483647 : Int32)) % (9 : Int32))) := own_br _ _ _ i37_6
      have hc104_70 : ¬ ((own_f_rmK ((p0 &&& (2147483647 : Int32)) % (9 : Int32))) = (0 : Int32)) := fun q => hc68 ((own_br _ _ _ i36_6).trans q)
      have hc117_71 : (own_f_rmBR r_36 o8) = (1 : Int32) := (own_br _ _ _ i36_6).trans (own_k1 _ hc104_70)
      obtain ⟨fs, hr, hrun, hended, hW, hsame⟩ := X66.leave (v := some (.int (1 : Int32))) (fun h => by rw [Bd.returns] at h; cases h)
      refine ⟨_, _, pre61 _ ?_, hrun, hended, _, _, rfl, ?_, ⟨_, rfl⟩, hW, hsame.mono (by decide) (by decide)⟩
      · show Steps p.tables e below (T60.setTop (mkF m 68 #[.val (.int p0), .val (.int p1), .val (.int ((p0 &&& (2147483647 : Int32)) % (9 : Int32))), .val (.int ((p1 &&& (2147483647 : Int32)) % (9 : Int32))), .val (.ref r_36), .val (.ref r_37), .val (.int (own_f_rmBR r_36 o8)), .val (.int (own_f_rmBR r_37 o8)), .val (.int (own_f_rmK ((p0 &&& (2147483647 : Int32)) % (9 : Int32)))), .val (.int (own_f_rmK ((p1 &&& (2147483647 : Int32)) % (9 : Int32)))), .val (.int (own_f_rmBR r_36 o8)), .unset] [(.int (own_f_rmBR r_36 o8))])) _
        refine XS.ifNo X60.here hx rfl (hb hby at_68) rfl ((if0 _ _).trans (feq hc68).1) ?_
        show Steps p.tables e below (T60.setTop (mkF m 71 #[.val (.int p0), .val (.int p1), .val (.int ((p0 &&& (2147483647 : Int32)) % (9 : Int32))), .val (.int ((p1 &&& (2147483647 : Int32)) % (9 : Int32))), .val (.ref r_36), .val (.ref r_37), .val (.int (own_f_rmBR r_36 o8)), .val (.int (own_f_rmBR r_37 o8)), .val (.int (own_f_rmK ((p0 &&& (2147483647 : Int32)) % (9 : Int32)))), .val (.int (own_f_rmK ((p1 &&& (2147483647 : Int32)) % (9 : Int32)))), .val (.int (own_f_rmBR r_36 o8)), .unset] [])) _
        refine XS.aload X60.here hx rfl (hb hby at_71) rfl rfl ?_
        show Steps p.tables e below (T60.setTop (mkF m 73 #[.val (.int p0), .val (.int p1), .val (.int ((p0 &&& (2147483647 : Int32)) % (9 : Int32))), .val (.int ((p1 &&& (2147483647 : Int32)) % (9 : Int32))), .val (.ref r_36), .val (.ref r_37), .val (.int (own_f_rmBR r_36 o8)), .val (.int (own_f_rmBR r_37 o8)), .val (.int (own_f_rmK ((p0 &&& (2147483647 : Int32)) % (9 : Int32)))), .val (.int (own_f_rmK ((p1 &&& (2147483647 : Int32)) % (9 : Int32)))), .val (.int (own_f_rmBR r_36 o8)), .unset] [(.ref r_36)])) _
        refine st66.trans ?_
        show Steps p.tables e below (T66.setTop (mkF m 76 #[.val (.int p0), .val (.int p1), .val (.int ((p0 &&& (2147483647 : Int32)) % (9 : Int32))), .val (.int ((p1 &&& (2147483647 : Int32)) % (9 : Int32))), .val (.ref r_36), .val (.ref r_37), .val (.int (own_f_rmBR r_36 o8)), .val (.int (own_f_rmBR r_37 o8)), .val (.int (own_f_rmK ((p0 &&& (2147483647 : Int32)) % (9 : Int32)))), .val (.int (own_f_rmK ((p1 &&& (2147483647 : Int32)) % (9 : Int32)))), .val (.int (own_f_rmBR r_36 o8)), .unset] [(.int (own_f_rmBW ((p0 &&& (2147483647 : Int32)) % (9 : Int32))))])) _
        refine XS.ifNo X66.here hx rfl (hb hby at_76) rfl ((if0 _ _).trans (feq hc76_67).1) ?_
        show Steps p.tables e below (T66.setTop (mkF m 79 #[.val (.int p0), .val (.int p1), .val (.int ((p0 &&& (2147483647 : Int32)) % (9 : Int32))), .val (.int ((p1 &&& (2147483647 : Int32)) % (9 : Int32))), .val (.ref r_36), .val (.ref r_37), .val (.int (own_f_rmBR r_36 o8)), .val (.int (own_f_rmBR r_37 o8)), .val (.int (own_f_rmK ((p0 &&& (2147483647 : Int32)) % (9 : Int32)))), .val (.int (own_f_rmK ((p1 &&& (2147483647 : Int32)) % (9 : Int32)))), .val (.int (own_f_rmBR r_36 o8)), .unset] [])) _
        refine XS.iconst X66.here hx rfl (hb hby at_79) ?_
        show Steps p.tables e below (T66.setTop (mkF m 80 #[.val (.int p0), .val (.int p1), .val (.int ((p0 &&& (2147483647 : Int32)) % (9 : Int32))), .val (.int ((p1 &&& (2147483647 : Int32)) % (9 : Int32))), .val (.ref r_36), .val (.ref r_37), .val (.int (own_f_rmBR r_36 o8)), .val (.int (own_f_rmBR r_37 o8)), .val (.int (own_f_rmK ((p0 &&& (2147483647 : Int32)) % (9 : Int32)))), .val (.int (own_f_rmK ((p1 &&& (2147483647 : Int32)) % (9 : Int32)))), .val (.int (own_f_rmBR r_36 o8)), .unset] [(.int (1 : Int32))])) _
        refine XS.goto X66.here hx rfl (pc0 := 80) (pc' := 84) rfl (hb hby at_80) (by decide) (by decide) ?_
        show Steps p.tables e below (T66.setTop (mkF m 84 #[.val (.int p0), .val (.int p1), .val (.int ((p0 &&& (2147483647 : Int32)) % (9 : Int32))), .val (.int ((p1 &&& (2147483647 : Int32)) % (9 : Int32))), .val (.ref r_36), .val (.ref r_37), .val (.int (own_f_rmBR r_36 o8)), .val (.int (own_f_rmBR r_37 o8)), .val (.int (own_f_rmK ((p0 &&& (2147483647 : Int32)) % (9 : Int32)))), .val (.int (own_f_rmK ((p1 &&& (2147483647 : Int32)) % (9 : Int32)))), .val (.int (own_f_rmBR r_36 o8)), .unset] [(.int (1 : Int32))])) _
        refine XS.istore X66.here hx rfl (hb hby at_84) rfl (l' := #[.val (.int p0), .val (.int p1), .val (.int ((p0 &&& (2147483647 : Int32)) % (9 : Int32))), .val (.int ((p1 &&& (2147483647 : Int32)) % (9 : Int32))), .val (.ref r_36), .val (.ref r_37), .val (.int (own_f_rmBR r_36 o8)), .val (.int (own_f_rmBR r_37 o8)), .val (.int (own_f_rmK ((p0 &&& (2147483647 : Int32)) % (9 : Int32)))), .val (.int (own_f_rmK ((p1 &&& (2147483647 : Int32)) % (9 : Int32)))), .val (.int (own_f_rmBR r_36 o8)), .val (.int (1 : Int32))]) rfl ?_
        show Steps p.tables e below (T66.setTop (mkF m 86 #[.val (.int p0), .val (.int p1), .val (.int ((p0 &&& (2147483647 : Int32)) % (9 : Int32))), .val (.int ((p1 &&& (2147483647 : Int32)) % (9 : Int32))), .val (.ref r_36), .val (.ref r_37), .val (.int (own_f_rmBR r_36 o8)), .val (.int (own_f_rmBR r_37 o8)), .val (.int (own_f_rmK ((p0 &&& (2147483647 : Int32)) % (9 : Int32)))), .val (.int (own_f_rmK ((p1 &&& (2147483647 : Int32)) % (9 : Int32)))), .val (.int (own_f_rmBR r_36 o8)), .val (.int (1 : Int32))] [])) _
        refine XS.iload X66.here hx rfl (hb hby at_86) rfl ?_
        show Steps p.tables e below (T66.setTop (mkF m 88 #[.val (.int p0), .val (.int p1), .val (.int ((p0 &&& (2147483647 : Int32)) % (9 : Int32))), .val (.int ((p1 &&& (2147483647 : Int32)) % (9 : Int32))), .val (.ref r_36), .val (.ref r_37), .val (.int (own_f_rmBR r_36 o8)), .val (.int (own_f_rmBR r_37 o8)), .val (.int (own_f_rmK ((p0 &&& (2147483647 : Int32)) % (9 : Int32)))), .val (.int (own_f_rmK ((p1 &&& (2147483647 : Int32)) % (9 : Int32)))), .val (.int (own_f_rmBR r_36 o8)), .val (.int (1 : Int32))] [(.int (own_f_rmBR r_36 o8))])) _
        refine XS.iload X66.here hx rfl (hb hby at_88) rfl ?_
        show Steps p.tables e below (T66.setTop (mkF m 90 #[.val (.int p0), .val (.int p1), .val (.int ((p0 &&& (2147483647 : Int32)) % (9 : Int32))), .val (.int ((p1 &&& (2147483647 : Int32)) % (9 : Int32))), .val (.ref r_36), .val (.ref r_37), .val (.int (own_f_rmBR r_36 o8)), .val (.int (own_f_rmBR r_37 o8)), .val (.int (own_f_rmK ((p0 &&& (2147483647 : Int32)) % (9 : Int32)))), .val (.int (own_f_rmK ((p1 &&& (2147483647 : Int32)) % (9 : Int32)))), .val (.int (own_f_rmBR r_36 o8)), .val (.int (1 : Int32))] [(.int (own_f_rmK ((p0 &&& (2147483647 : Int32)) % (9 : Int32)))), (.int (own_f_rmBR r_36 o8))])) _
        refine XS.icmpNo X66.here hx rfl (hb hby at_90) rfl (teq hc90_68).2 ?_
        show Steps p.tables e below (T66.setTop (mkF m 93 #[.val (.int p0), .val (.int p1), .val (.int ((p0 &&& (2147483647 : Int32)) % (9 : Int32))), .val (.int ((p1 &&& (2147483647 : Int32)) % (9 : Int32))), .val (.ref r_36), .val (.ref r_37), .val (.int (own_f_rmBR r_36 o8)), .val (.int (own_f_rmBR r_37 o8)), .val (.int (own_f_rmK ((p0 &&& (2147483647 : Int32)) % (9 : Int32)))), .val (.int (own_f_rmK ((p1 &&& (2147483647 : Int32)) % (9 : Int32)))), .val (.int (own_f_rmBR r_36 o8)), .val (.int (1 : Int32))] [])) _
        refine XS.iload X66.here hx rfl (hb hby at_93) rfl ?_
        show Steps p.tables e below (T66.setTop (mkF m 95 #[.val (.int p0), .val (.int p1), .val (.int ((p0 &&& (2147483647 : Int32)) % (9 : Int32))), .val (.int ((p1 &&& (2147483647 : Int32)) % (9 : Int32))), .val (.ref r_36), .val (.ref r_37), .val (.int (own_f_rmBR r_36 o8)), .val (.int (own_f_rmBR r_37 o8)), .val (.int (own_f_rmK ((p0 &&& (2147483647 : Int32)) % (9 : Int32)))), .val (.int (own_f_rmK ((p1 &&& (2147483647 : Int32)) % (9 : Int32)))), .val (.int (own_f_rmBR r_36 o8)), .val (.int (1 : Int32))] [(.int (own_f_rmBR r_37 o8))])) _
        refine XS.iload X66.here hx rfl (hb hby at_95) rfl ?_
        show Steps p.tables e below (T66.setTop (mkF m 97 #[.val (.int p0), .val (.int p1), .val (.int ((p0 &&& (2147483647 : Int32)) % (9 : Int32))), .val (.int ((p1 &&& (2147483647 : Int32)) % (9 : Int32))), .val (.ref r_36), .val (.ref r_37), .val (.int (own_f_rmBR r_36 o8)), .val (.int (own_f_rmBR r_37 o8)), .val (.int (own_f_rmK ((p0 &&& (2147483647 : Int32)) % (9 : Int32)))), .val (.int (own_f_rmK ((p1 &&& (2147483647 : Int32)) % (9 : Int32)))), .val (.int (own_f_rmBR r_36 o8)), .val (.int (1 : Int32))] [(.int (own_f_rmK ((p1 &&& (2147483647 : Int32)) % (9 : Int32)))), (.int (own_f_rmBR r_37 o8))])) _
        refine XS.icmpNo X66.here hx rfl (hb hby at_97) rfl (teq hc97_69).2 ?_
        show Steps p.tables e below (T66.setTop (mkF m 100 #[.val (.int p0), .val (.int p1), .val (.int ((p0 &&& (2147483647 : Int32)) % (9 : Int32))), .val (.int ((p1 &&& (2147483647 : Int32)) % (9 : Int32))), .val (.ref r_36), .val (.ref r_37), .val (.int (own_f_rmBR r_36 o8)), .val (.int (own_f_rmBR r_37 o8)), .val (.int (own_f_rmK ((p0 &&& (2147483647 : Int32)) % (9 : Int32)))), .val (.int (own_f_rmK ((p1 &&& (2147483647 : Int32)) % (9 : Int32)))), .val (.int (own_f_rmBR r_36 o8)), .val (.int (1 : Int32))] [])) _
        refine XS.iload X66.here hx rfl (hb hby at_100) rfl ?_
        show Steps p.tables e below (T66.setTop (mkF m 102 #[.val (.int p0), .val (.int p1), .val (.int ((p0 &&& (2147483647 : Int32)) % (9 : Int32))), .val (.int ((p1 &&& (2147483647 : Int32)) % (9 : Int32))), .val (.ref r_36), .val (.ref r_37), .val (.int (own_f_rmBR r_36 o8)), .val (.int (own_f_rmBR r_37 o8)), .val (.int (own_f_rmK ((p0 &&& (2147483647 : Int32)) % (9 : Int32)))), .val (.int (own_f_rmK ((p1 &&& (2147483647 : Int32)) % (9 : Int32)))), .val (.int (own_f_rmBR r_36 o8)), .val (.int (1 : Int32))] [(.int (own_f_rmBR r_36 o8))])) _
        refine XS.iload X66.here hx rfl (hb hby at_102) rfl ?_
        show Steps p.tables e below (T66.setTop (mkF m 104 #[.val (.int p0), .val (.int p1), .val (.int ((p0 &&& (2147483647 : Int32)) % (9 : Int32))), .val (.int ((p1 &&& (2147483647 : Int32)) % (9 : Int32))), .val (.ref r_36), .val (.ref r_37), .val (.int (own_f_rmBR r_36 o8)), .val (.int (own_f_rmBR r_37 o8)), .val (.int (own_f_rmK ((p0 &&& (2147483647 : Int32)) % (9 : Int32)))), .val (.int (own_f_rmK ((p1 &&& (2147483647 : Int32)) % (9 : Int32)))), .val (.int (own_f_rmBR r_36 o8)), .val (.int (1 : Int32))] [(.int (own_f_rmK ((p0 &&& (2147483647 : Int32)) % (9 : Int32)))), (.int (own_f_rmBR r_36 o8))])) _
        refine XS.ifYes X66.here hx rfl (pc0 := 104) (pc' := 112) rfl (hb hby at_104) rfl ((if0 _ _).trans (feq hc104_70).2) (by decide) (by decide) ?_
        show Steps p.tables e below (T66.setTop (mkF m 112 #[.val (.int p0), .val (.int p1), .val (.int ((p0 &&& (2147483647 : Int32)) % (9 : Int32))), .val (.int ((p1 &&& (2147483647 : Int32)) % (9 : Int32))), .val (.ref r_36), .val (.ref r_37), .val (.int (own_f_rmBR r_36 o8)), .val (.int (own_f_rmBR r_37 o8)), .val (.int (own_f_rmK ((p0 &&& (2147483647 : Int32)) % (9 : Int32)))), .val (.int (own_f_rmK ((p1 &&& (2147483647 : Int32)) % (9 : Int32)))), .val (.int (own_f_rmBR r_36 o8)), .val (.int (1 : Int32))] [(.int (own_f_rmBR r_36 o8))])) _
        refine XS.iconst X66.here hx rfl (hb hby at_112) ?_
        show Steps p.tables e below (T66.setTop (mkF m 113 #[.val (.int p0), .val (.int p1), .val (.int ((p0 &&& (2147483647 : Int32)) % (9 : Int32))), .val (.int ((p1 &&& (2147483647 : Int32)) % (9 : Int32))), .val (.ref r_36), .val (.ref r_37), .val (.int (own_f_rmBR r_36 o8)), .val (.int (own_f_rmBR r_37 o8)), .val (.int (own_f_rmK ((p0 &&& (2147483647 : Int32)) % (9 : Int32)))), .val (.int (own_f_rmK ((p1 &&& (2147483647 : Int32)) % (9 : Int32)))), .val (.int (own_f_rmBR r_36 o8)), .val (.int (1 : Int32))] [(.int (1 : Int32)), (.int (own_f_rmBR r_36 o8))])) _
        refine XS.goto X66.here hx rfl (pc0 := 113) (pc' := 117) rfl (hb hby at_113) (by decide) (by decide) ?_
        show Steps p.tables e below (T66.setTop (mkF m 117 #[.val (.int p0), .val (.int p1), .val (.int ((p0 &&& (2147483647 : Int32)) % (9 : Int32))), .val (.int ((p1 &&& (2147483647 : Int32)) % (9 : Int32))), .val (.ref r_36), .val (.ref r_37), .val (.int (own_f_rmBR r_36 o8)), .val (.int (own_f_rmBR r_37 o8)), .val (.int (own_f_rmK ((p0 &&& (2147483647 : Int32)) % (9 : Int32)))), .val (.int (own_f_rmK ((p1 &&& (2147483647 : Int32)) % (9 : Int32)))), .val (.int (own_f_rmBR r_36 o8)), .val (.int (1 : Int32))] [(.int (1 : Int32)), (.int (own_f_rmBR r_36 o8))])) _
        refine XS.icmpNo X66.here hx rfl (hb hby at_117) rfl (teq hc117_71).2 ?_
        show Steps p.tables e below (T66.setTop (mkF m 120 #[.val (.int p0), .val (.int p1), .val (.int ((p0 &&& (2147483647 : Int32)) % (9 : Int32))), .val (.int ((p1 &&& (2147483647 : Int32)) % (9 : Int32))), .val (.ref r_36), .val (.ref r_37), .val (.int (own_f_rmBR r_36 o8)), .val (.int (own_f_rmBR r_37 o8)), .val (.int (own_f_rmK ((p0 &&& (2147483647 : Int32)) % (9 : Int32)))), .val (.int (own_f_rmK ((p1 &&& (2147483647 : Int32)) % (9 : Int32)))), .val (.int (own_f_rmBR r_36 o8)), .val (.int (1 : Int32))] [])) _
        refine XS.iload X66.here hx rfl (hb hby at_120) rfl ?_
        show Steps p.tables e below (T66.setTop (mkF m 122 #[.val (.int p0), .val (.int p1), .val (.int ((p0 &&& (2147483647 : Int32)) % (9 : Int32))), .val (.int ((p1 &&& (2147483647 : Int32)) % (9 : Int32))), .val (.ref r_36), .val (.ref r_37), .val (.int (own_f_rmBR r_36 o8)), .val (.int (own_f_rmBR r_37 o8)), .val (.int (own_f_rmK ((p0 &&& (2147483647 : Int32)) % (9 : Int32)))), .val (.int (own_f_rmK ((p1 &&& (2147483647 : Int32)) % (9 : Int32)))), .val (.int (own_f_rmBR r_36 o8)), .val (.int (1 : Int32))] [(.int (1 : Int32))])) _
        refine XS.ifNo X66.here hx rfl (hb hby at_122) rfl ((if0 _ _).trans (feq (by decide : ¬ ((1 : Int32) = (0 : Int32)))).1) ?_
        show Steps p.tables e below (T66.setTop (mkF m 125 #[.val (.int p0), .val (.int p1), .val (.int ((p0 &&& (2147483647 : Int32)) % (9 : Int32))), .val (.int ((p1 &&& (2147483647 : Int32)) % (9 : Int32))), .val (.ref r_36), .val (.ref r_37), .val (.int (own_f_rmBR r_36 o8)), .val (.int (own_f_rmBR r_37 o8)), .val (.int (own_f_rmK ((p0 &&& (2147483647 : Int32)) % (9 : Int32)))), .val (.int (own_f_rmK ((p1 &&& (2147483647 : Int32)) % (9 : Int32)))), .val (.int (own_f_rmBR r_36 o8)), .val (.int (1 : Int32))] [])) _
        refine XS.iconst X66.here hx rfl (hb hby at_125) ?_
        show Steps p.tables e below (T66.setTop (mkF m 126 #[.val (.int p0), .val (.int p1), .val (.int ((p0 &&& (2147483647 : Int32)) % (9 : Int32))), .val (.int ((p1 &&& (2147483647 : Int32)) % (9 : Int32))), .val (.ref r_36), .val (.ref r_37), .val (.int (own_f_rmBR r_36 o8)), .val (.int (own_f_rmBR r_37 o8)), .val (.int (own_f_rmK ((p0 &&& (2147483647 : Int32)) % (9 : Int32)))), .val (.int (own_f_rmK ((p1 &&& (2147483647 : Int32)) % (9 : Int32)))), .val (.int (own_f_rmBR r_36 o8)), .val (.int (1 : Int32))] [(.int (1 : Int32))])) _
        refine XS.goto X66.here hx rfl (pc0 := 126) (pc' := 130) rfl (hb hby at_126) (by decide) (by decide) ?_
        show Steps p.tables e below (T66.setTop (mkF m 130 #[.val (.int p0), .val (.int p1), .val (.int ((p0 &&& (2147483647 : Int32)) % (9 : Int32))), .val (.int ((p1 &&& (2147483647 : Int32)) % (9 : Int32))), .val (.ref r_36), .val (.ref r_37), .val (.int (own_f_rmBR r_36 o8)), .val (.int (own_f_rmBR r_37 o8)), .val (.int (own_f_rmK ((p0 &&& (2147483647 : Int32)) % (9 : Int32)))), .val (.int (own_f_rmK ((p1 &&& (2147483647 : Int32)) % (9 : Int32)))), .val (.int (own_f_rmBR r_36 o8)), .val (.int (1 : Int32))] [(.int (1 : Int32))])) _
        exact retN X66 hx (t := .boolean) Bd.returns (by simp) (hb hby at_130) hr
      · show Q0 Z p0 p1 o0 o1 o2 o3 o4 o5 o6 o7 o8 mr h0 n0 _ T66.heap _
        rw [e66]
        exact ⟨rfl, N66⟩
set_option maxRecDepth 65536 in
set_option maxHeartbeats 40000000 in
theorem comes_1 {Post : Tables → Env → Array Value → State → Outcome → State → Prop} (hpost : ∀ tb e args s v u, (limb_1_1.after args s (.returned v) u = true ∧ limb_1_2.after args s (.returned v) u = true ∧ True) → FrameEnd s (.returned v) u (Jvm.fieldLocs frame_1_writes args s ++ Jvm.arrayLocs frame_1_arrays args s ++ Jvm.staticLocs frame_1_statics s) 0 0 → Post tb e args s (.returned v) u) :
    ArmFor flags0 classFile x code maxLocals ret World_1 tables_1 room_1 Calls_1 rest_1 Pre_1 Post := by
  intro l hfl _ _ p e ha hc hk s m args below hf hA hF happ hP
  obtain ⟨hcalls, hrest, hpre⟩ := hP
  obtain ⟨-, -, -, hnamed, -, -, -, hat⟩ := (Spec.applies_iff hf).mp happ
  obtain ⟨hg, hn⟩ := and_e (Cond.before_iff.mp (show (Jvm.Cond.and given_1 narrow_1).before args s = true from hpre))
  obtain ⟨hcount, hg0⟩ := and_e hg
  obtain ⟨hi0, hg1⟩ := and_e hg0
  have hi1 := hg1
  obtain ⟨w0, w1, rfl⟩ : ∃ w0 w1 : Value, args = #[w0, w1] := by
    have hs : args.size = 2 := by simpa [Cond.value, given_1] using hcount
    obtain ⟨L⟩ := args
    match L, hs with
    | [w0, w1], _ => exact ⟨w0, w1, rfl⟩
  have hw := fun d (hd : d ∈ tables_1) => atoms_spec (ws := Jvm.Cond.code x code maxLocals ret :: tables_1) hat d (List.mem_cons_of_mem _ hd)
  have hfit : Fit s := fun {y c} hc i hi => by
    obtain ⟨ha, rfl⟩ := Array.getElem?_eq_some_iff.mp hc
    have q := List.all_eq_true.mp ((Array.all_eq_true_iff_forall_mem.mp hF) _ (Array.getElem_mem ha)) i (List.mem_range.mpr hi)
    simpa [Array.getElem?_eq_getElem hi] using q
  obtain ⟨i0, ei0⟩ := is_v hi0
  obtain rfl : w0 = (.int i0) := Option.some.inj ei0
  obtain ⟨i1, ei1⟩ := is_v hi1
  obtain rfl : w1 = (.int i1) := Option.some.inj ei1
  obtain ⟨hn1a, hn1b⟩ := and_e hn
  obtain ⟨o0, ev_o0⟩ := exa_v hn1a
  have E_o0 := Exa.start ev_o0 hn1a
  have S_NONE : Sta s s.heap "com/example/alterlint/alterlint/model/LockMode" "NONE" "Lcom/example/alterlint/alterlint/model/LockMode;" (.ref o0) := Sta.start ev_o0 (Or.inr ⟨(hw _ (List.mem_of_getElem? (i := 6) rfl)), (hw _ (List.mem_of_getElem? (i := 7) rfl))⟩)
  obtain ⟨hn2a, hn2b⟩ := and_e hn1b
  obtain ⟨o3, ev_o3⟩ := exa_v hn2a
  have E_o3 := Exa.start ev_o3 hn2a
  have S_ROW_EXCLUSIVE : Sta s s.heap "com/example/alterlint/alterlint/model/LockMode" "ROW_EXCLUSIVE" "Lcom/example/alterlint/alterlint/model/LockMode;" (.ref o3) := Sta.start ev_o3 (Or.inr ⟨(hw _ (List.mem_of_getElem? (i := 6) rfl)), (hw _ (List.mem_of_getElem? (i := 9) rfl))⟩)
  obtain ⟨hn3a, hn3b⟩ := and_e hn2b
  obtain ⟨o8, ev_o8⟩ := exa_v hn3a
  have E_o8 := Exa.start ev_o8 hn3a
  have S_ACCESS_EXCLUSIVE : Sta s s.heap "com/example/alterlint/alterlint/model/LockMode" "ACCESS_EXCLUSIVE" "Lcom/example/alterlint/alterlint/model/LockMode;" (.ref o8) := Sta.start ev_o8 (Or.inr ⟨(hw _ (List.mem_of_getElem? (i := 6) rfl)), (hw _ (List.mem_of_getElem? (i := 16) rfl))⟩)
  obtain ⟨hn4a, hn4b⟩ := and_e hn3b
  have F_o0_ordinal := own_fldS ev_o0 hn4a
  obtain ⟨hn5a, hn5b⟩ := and_e hn4b
  have F_o8_ordinal := own_fldS ev_o8 hn5a
  obtain ⟨hn6a, hn6b⟩ := and_e hn5b
  have F_o3_ordinal := own_fldS ev_o3 hn6a
  obtain ⟨hn7a, hn7b⟩ := and_e hn6b
  obtain ⟨o5, ev_o5⟩ := exa_v hn7a
  have E_o5 := Exa.start ev_o5 hn7a
  have S_SHARE : Sta s s.heap "com/example/alterlint/alterlint/model/LockMode" "SHARE" "Lcom/example/alterlint/alterlint/model/LockMode;" (.ref o5) := Sta.start ev_o5 (Or.inr ⟨(hw _ (List.mem_of_getElem? (i := 6) rfl)), (hw _ (List.mem_of_getElem? (i := 41) rfl))⟩)
  obtain ⟨hn8a, hn8b⟩ := and_e hn7b
  obtain ⟨o1, ev_o1⟩ := exa_v hn8a
  have E_o1 := Exa.start ev_o1 hn8a
  have S_ACCESS_SHARE : Sta s s.heap "com/example/alterlint/alterlint/model/LockMode" "ACCESS_SHARE" "Lcom/example/alterlint/alterlint/model/LockMode;" (.ref o1) := Sta.start ev_o1 (Or.inr ⟨(hw _ (List.mem_of_getElem? (i := 6) rfl)), (hw _ (List.mem_of_getElem? (i := 43) rfl))⟩)
  obtain ⟨hn9a, hn9b⟩ := and_e hn8b
  have F_o5_ordinal := own_fldS ev_o5 hn9a
  obtain ⟨hn10a, hn10b⟩ := and_e hn9b
  have F_o1_ordinal := own_fldS ev_o1 hn10a
  obtain ⟨hn11a, hn11b⟩ := and_e hn10b
  obtain ⟨o2, ev_o2⟩ := exa_v hn11a
  have E_o2 := Exa.start ev_o2 hn11a
  have S_ROW_SHARE : Sta s s.heap "com/example/alterlint/alterlint/model/LockMode" "ROW_SHARE" "Lcom/example/alterlint/alterlint/model/LockMode;" (.ref o2) := Sta.start ev_o2 (Or.inr ⟨(hw _ (List.mem_of_getElem? (i := 6) rfl)), (hw _ (List.mem_of_getElem? (i := 45) rfl))⟩)
  obtain ⟨hn12a, hn12b⟩ := and_e hn11b
  have F_o2_ordinal := own_fldS ev_o2 hn12a
  obtain ⟨hn13a, hn13b⟩ := and_e hn12b
  obtain ⟨o4, ev_o4⟩ := exa_v hn13a
  have E_o4 := Exa.start ev_o4 hn13a
  have S_SHARE_UPDATE_EXCLUSIVE : Sta s s.heap "com/example/alterlint/alterlint/model/LockMode" "SHARE_UPDATE_EXCLUSIVE" "Lcom/example/alterlint/alterlint/model/LockMode;" (.ref o4) := Sta.start ev_o4 (Or.inr ⟨(hw _ (List.mem_of_getElem? (i := 6) rfl)), (hw _ (List.mem_of_getElem? (i := 47) rfl))⟩)
  obtain ⟨hn14a, hn14b⟩ := and_e hn13b
  have F_o4_ordinal := own_fldS ev_o4 hn14a
  obtain ⟨hn15a, hn15b⟩ := and_e hn14b
  obtain ⟨o6, ev_o6⟩ := exa_v hn15a
  have E_o6 := Exa.start ev_o6 hn15a
  have S_SHARE_ROW_EXCLUSIVE : Sta s s.heap "com/example/alterlint/alterlint/model/LockMode" "SHARE_ROW_EXCLUSIVE" "Lcom/example/alterlint/alterlint/model/LockMode;" (.ref o6) := Sta.start ev_o6 (Or.inr ⟨(hw _ (List.mem_of_getElem? (i := 6) rfl)), (hw _ (List.mem_of_getElem? (i := 49) rfl))⟩)
  obtain ⟨hn16a, hn16b⟩ := and_e hn15b
  have F_o6_ordinal := own_fldS ev_o6 hn16a
  obtain ⟨hn17a, hn17b⟩ := and_e hn16b
  obtain ⟨o7, ev_o7⟩ := exa_v hn17a
  have E_o7 := Exa.start ev_o7 hn17a
  have S_EXCLUSIVE : Sta s s.heap "com/example/alterlint/alterlint/model/LockMode" "EXCLUSIVE" "Lcom/example/alterlint/alterlint/model/LockMode;" (.ref o7) := Sta.start ev_o7 (Or.inr ⟨(hw _ (List.mem_of_getElem? (i := 6) rfl)), (hw _ (List.mem_of_getElem? (i := 58) rfl))⟩)
  have F_o7_ordinal := own_fldS ev_o7 hn17b
  obtain ⟨mr, M⟩ : ∃ mr, Mir s "com/example/alterlint/alterlint/model/LockMode" mr := by obtain ⟨c, k, mm, h1, h2, h3, h4⟩ := hcalls.1; exact ⟨mm, c, k, h1, h2, h3, h4⟩
  obtain ⟨n, o, h1, h2, h3, _, L, rfl, ⟨rfl, N⟩, hq⟩ := rm0 l s _ hw tables_1 i0 i1 o0 o1 o2 o3 o4 o5 o6 o7 o8 mr s.heap s.heap.size (Nat.le_refl _) S_NONE E_o0 F_o0_ordinal S_ACCESS_SHARE E_o1 F_o1_ordinal S_ROW_SHARE E_o2 F_o2_ordinal S_ROW_EXCLUSIVE E_o3 F_o3_ordinal S_SHARE_UPDATE_EXCLUSIVE E_o4 F_o4_ordinal S_SHARE E_o5 F_o5_ordinal S_SHARE_ROW_EXCLUSIVE E_o6 F_o6_ordinal S_EXCLUSIVE E_o7 F_o7_ordinal S_ACCESS_EXCLUSIVE E_o8 F_o8_ordinal (Fld.ne F_o0_ordinal F_o8_ordinal (by simp)) (Fld.ne F_o1_ordinal F_o8_ordinal (by simp)) (Fld.ne F_o2_ordinal F_o8_ordinal (by simp)) (Fld.ne F_o3_ordinal F_o8_ordinal (by simp)) (Fld.ne F_o4_ordinal F_o8_ordinal (by simp)) (Fld.ne F_o5_ordinal F_o8_ordinal (by simp)) (Fld.ne F_o6_ordinal F_o8_ordinal (by simp)) (Fld.ne F_o7_ordinal F_o8_ordinal (by simp)) M p e ha hc hk s m _ below hf ((Spec.applies_iff_loose hf).mp happ).1 ⟨rfl, State.Warmed39.refl s, rfl⟩ trivial
  refine ⟨n, _, h1, h2, h3, hpost _ _ _ _ _ _ ⟨Cond.after_iff.mpr rfl, Cond.after_iff.mpr (eq_i res_at (Term.int_eval (1)) rfl), trivial⟩ ⟨hq.1, hq.2.1, (hq.2.2.sift fun y hy => Or.inr (N y hy)).mono (by decide) (by decide)⟩⟩
theorem main_1_1 : Claimed_1_1 := comes_1 fun _ _ _ _ _ _ h hF => ⟨h.1, hF⟩
theorem main_1_2 : Claimed_1_2 := comes_1 fun _ _ _ _ _ _ h hF => ⟨h.2.1, hF⟩
end Jvm.Pilot.@@N@@
namespace Jvm.Pilot.@@N@@
open Jvm Jvm.ClassFile Sem Op Lib Jvm.Free Jvm.Stand Jvm.Pilot.@@N@@.Jvm.D
/-! MADE BY PROGRAM (witnessworld.py) out of the Statement's table words and the real class files: 13 classes; the members and pool entries that the words name. The judged class is class 1, her method 3. -/
namespace start1
open Jvm.ClassFile
def u (s : String) : CpInfo := .utf8 (stringToUtf16 s)
/-- a pool by its gaps: so many unusable entries, then the entry; so many at the end -/
def gap : Nat → List CpInfo → List CpInfo
  | 0, r => r
  | n + 1, r => .unusable :: gap n r
def poolList (es : List (Nat × CpInfo)) (last : Nat) : List CpInfo := es.foldr (fun e r => gap e.1 (e.2 :: r)) (gap last [])
def pool (es : List (Nat × CpInfo)) (last : Nat) : Array CpInfo := ⟨poolList es last⟩
def fileOf (pool : Array CpInfo) (this : Nat) (attrs : Array Attribute := #[]) (ms : Array MethodInfo := #[]) (fl : Nat := 33) (sup : Nat := 0) (ifs : Array Nat := #[]) (fds : Array FieldInfo := #[]) : ClassFile where
  minorVersion := 0
  majorVersion := 65
  constantPool := pool
  accessFlags := fl
  thisClass := this
  superClass := sup
  interfaces := ifs
  fields := fds
  methods := ms
  attributes := attrs
def plain (name : String) (sup : Option ClassId) : Class where
  name := name
  kind := .ordinary
  loader := none
  accessFlags := 33
  super := sup
  interfaces := #[]
  cf := none
  fields := #[]
  methods := #[]
  instanceTypes := #[]
  staticTypes := #[]
  resolved := #[]
  callSites := []
  init := .initialized
  statics := none
  mirror := none

def pool0 : Array CpInfo := pool [(5, u "<init>"), (0, u "()V"), (1, .class_ 10), (1, u "java/lang/Object"), (0, u "getClass"), (0, u "()Ljava/lang/Class;")] 111

def k0m0 : Method := { name := "<init>", desc := "()V", sig := { parameters := [], returnType := none }, accessFlags := 1, code := none }
def k0m1 : Method := { name := "getClass", desc := "()Ljava/lang/Class;", sig := { parameters := [], returnType := some (.object "java/lang/Class") }, accessFlags := 273, code := none }
/-- java/lang/Object -/
def k0 : Class := { plain "java/lang/Object" none with
  accessFlags := 33
  interfaces := #[]
  cf := some (fileOf pool0 8 #[] #[{ accessFlags := 1, nameIndex := 5, descriptorIndex := 6, attributes := #[] }, { accessFlags := 273, nameIndex := 11, descriptorIndex := 12, attributes := #[] }] 33 0 #[] #[])
  fields := #[]
  methods := #[k0m0, k0m1]
  instanceTypes := #[]
  staticTypes := #[]
  resolved := Array.replicate 124 none
  statics := none }

def pool1 : Array CpInfo := pool [(2, .class_ 4), (1, u "java/lang/Object"), (0, u "<init>"), (0, u "()V"), (0, .fieldref 8 9), (0, .class_ 10), (0, .nameAndType 11 12), (0, u "com/example/alterlint/alterlint/model/LockMode"), (0, u "NONE"), (0, u "Lcom/example/alterlint/alterlint/model/LockMode;"), (0, .fieldref 8 14), (0, .nameAndType 15 12), (0, u "ACCESS_SHARE"), (0, .fieldref 8 17), (0, .nameAndType 18 12), (0, u "ROW_SHARE"), (0, .fieldref 8 20), (0, .nameAndType 21 12), (0, u "ROW_EXCLUSIVE"), (0, .fieldref 8 23), (0, .nameAndType 24 12), (0, u "SHARE_UPDATE_EXCLUSIVE"), (0, .fieldref 8 26), (0, .nameAndType 27 12), (0, u "SHARE"), (0, .fieldref 8 29), (0, .nameAndType 30 12), (0, u "SHARE_ROW_EXCLUSIVE"), (0, .fieldref 8 32), (0, .nameAndType 33 12), (0, u "EXCLUSIVE"), (0, .fieldref 8 35), (0, .nameAndType 36 12), (0, u "ACCESS_EXCLUSIVE"), (0, .integer 2147483647), (0, .methodref 39 40), (0, .class_ 41), (0, .nameAndType 42 43), (0, u "com/example/alterlint/alterlint/model/LockModeBlocksReadsPinLaw"), (0, u "mode"), (0, u "(I)Lcom/example/alterlint/alterlint/model/LockMode;"), (0, .methodref 8 45), (0, .nameAndType 46 47), (0, u "blocksReads"), (0, u "()Z"), (0, .methodref 39 49), (0, .nameAndType 50 51), (0, u "conflictsWithAccessShare"), (0, u "(I)Z"), (0, .methodref 8 53), (0, .nameAndType 54 55), (0, u "max"), (0, u "(Lcom/example/alterlint/alterlint/model/LockMode;)Lcom/example/alterlint/alterlint/model/LockMode;"), (0, .methodref 8 57), (0, .nameAndType 58 47), (0, u "blocksWrites"), (3, u "law"), (0, u "(II)Z")] 2

def k1m0 : Method := { name := "<init>", desc := "()V", sig := { parameters := [], returnType := none }, accessFlags := 1, code := none }
def k1c1 : Code := { maxStack := 2, maxLocals := 1, code := method_2_code, exceptionTable := #[], attributes := #[] }
def k1m1 : Method := { name := "mode", desc := "(I)Lcom/example/alterlint/alterlint/model/LockMode;", sig := { parameters := [.int], returnType := some (.object "com/example/alterlint/alterlint/model/LockMode") }, accessFlags := 10, code := some k1c1 }
def k1c2 : Code := { maxStack := 2, maxLocals := 1, code := method_3_code, exceptionTable := #[], attributes := #[] }
def k1m2 : Method := { name := "conflictsWithAccessShare", desc := "(I)Z", sig := { parameters := [.int], returnType := some .boolean }, accessFlags := 10, code := some k1c2 }
def k1c3 : Code := { maxStack := 2, maxLocals := 12, code := code, exceptionTable := #[], attributes := #[] }
def k1m3 : Method := { name := "law", desc := "(II)Z", sig := { parameters := [.int, .int], returnType := some .boolean }, accessFlags := 9, code := some k1c3 }
/-- com/example/alterlint/alterlint/model/LockModeBlocksReadsPinLaw -/
def k1 : Class := { plain "com/example/alterlint/alterlint/model/LockModeBlocksReadsPinLaw" (some 0) with
  accessFlags := 49
  interfaces := #[]
  cf := some (fileOf pool1 39 #[] #[{ accessFlags := 1, nameIndex := 5, descriptorIndex := 6, attributes := #[] }, { accessFlags := 10, nameIndex := 42, descriptorIndex := 43, attributes := #[] }, { accessFlags := 10, nameIndex := 50, descriptorIndex := 51, attributes := #[] }, { accessFlags := 9, nameIndex := 62, descriptorIndex := 63, attributes := #[] }] 49 2 #[] #[])
  fields := #[]
  methods := #[k1m0, k1m1, k1m2, k1m3]
  instanceTypes := #[]
  staticTypes := #[]
  resolved := Array.replicate 66 none
  statics := none }

def pool2 : Array CpInfo := pool [(1, .class_ 2), (0, u "java/lang/constant/Constable"), (0, .class_ 4), (0, u "java/lang/Object")] 6

/-- java/lang/constant/Constable -/
def k2 : Class := { plain "java/lang/constant/Constable" (some 0) with
  accessFlags := 1537
  interfaces := #[]
  cf := some (fileOf pool2 1 #[] #[] 1537 3 #[] #[])
  fields := #[]
  methods := #[]
  instanceTypes := #[]
  staticTypes := #[]
  resolved := Array.replicate 11 none
  statics := none }

def pool3 : Array CpInfo := pool [(1, .class_ 2), (0, u "java/lang/Comparable"), (0, .class_ 4), (0, u "java/lang/Object")] 7

/-- java/lang/Comparable -/
def k3 : Class := { plain "java/lang/Comparable" (some 0) with
  accessFlags := 1537
  interfaces := #[]
  cf := some (fileOf pool3 1 #[] #[] 1537 3 #[] #[])
  fields := #[]
  methods := #[]
  instanceTypes := #[]
  staticTypes := #[]
  resolved := Array.replicate 12 none
  statics := none }

def pool4 : Array CpInfo := pool [(1, .class_ 2), (0, u "java/io/Serializable"), (0, .class_ 4), (0, u "java/lang/Object")] 2

/-- java/io/Serializable -/
def k4 : Class := { plain "java/io/Serializable" (some 0) with
  accessFlags := 1537
  interfaces := #[]
  cf := some (fileOf pool4 1 #[] #[] 1537 3 #[] #[])
  fields := #[]
  methods := #[]
  instanceTypes := #[]
  staticTypes := #[]
  resolved := Array.replicate 7 none
  statics := none }

def pool5 : Array CpInfo := pool [(2, .class_ 4), (1, u "java/lang/Enum"), (0, u "name"), (0, u "Ljava/lang/String;"), (0, .fieldref 2 8), (0, .nameAndType 9 10), (0, u "ordinal"), (0, u "I"), (1, .class_ 14), (1, u "java/lang/Object"), (4, u "hash"), (9, .methodref 12 30), (0, .nameAndType 31 32), (0, u "getClass"), (0, u "()Ljava/lang/Class;"), (70, u "compareTo"), (0, u "(Ljava/lang/Enum;)I"), (1, .class_ 108), (1, u "java/lang/Enum$EnumDesc"), (2, .class_ 112), (0, u "java/lang/constant/Constable"), (0, .class_ 114), (0, u "java/lang/Comparable"), (0, .class_ 116), (0, u "java/io/Serializable")] 87

def k5c0 : Code := { maxStack := 2, maxLocals := 4, code := jdk_37_method_8_code, exceptionTable := #[], attributes := #[] }
def k5m0 : Method := { name := "compareTo", desc := "(Ljava/lang/Enum;)I", sig := { parameters := [(.object "java/lang/Enum")], returnType := some .int }, accessFlags := 17, code := some k5c0 }
/-- java/lang/Enum -/
def k5 : Class := { plain "java/lang/Enum" (some 0) with
  accessFlags := 1057
  interfaces := #[2, 3, 4]
  cf := some (fileOf pool5 2 #[.nestMembers #[106]] #[{ accessFlags := 17, nameIndex := 103, descriptorIndex := 104, attributes := #[] }] 1057 12 #[111, 113, 115] #[{ accessFlags := 18, nameIndex := 5, descriptorIndex := 6, attributes := #[] }, { accessFlags := 18, nameIndex := 9, descriptorIndex := 10, attributes := #[] }, { accessFlags := 2, nameIndex := 19, descriptorIndex := 10, attributes := #[] }])
  fields := #[{ name := "name", type := (.object "java/lang/String"), accessFlags := 18, slot := 0, constantValue := 0 }, { name := "ordinal", type := .int, accessFlags := 18, slot := 1, constantValue := 0 }, { name := "hash", type := .int, accessFlags := 2, slot := 2, constantValue := 0 }]
  methods := #[k5m0]
  instanceTypes := #[(.object "java/lang/String"), .int, .int]
  staticTypes := #[]
  resolved := Array.replicate 204 none
  statics := none }

def pool6 : Array CpInfo := pool [(1, .class_ 2), (0, u "com/example/alterlint/alterlint/model/LockMode"), (2, u "NONE"), (0, u "Lcom/example/alterlint/alterlint/model/LockMode;"), (2, u "ACCESS_SHARE"), (2, u "ROW_SHARE"), (2, u "ROW_EXCLUSIVE"), (2, u "SHARE_UPDATE_EXCLUSIVE"), (0, .fieldref 1 20), (0, .nameAndType 21 6), (0, u "SHARE"), (2, u "SHARE_ROW_EXCLUSIVE"), (2, u "EXCLUSIVE"), (0, .fieldref 1 29), (0, .nameAndType 30 6), (0, u "ACCESS_EXCLUSIVE"), (2, u "$VALUES"), (0, u "[Lcom/example/alterlint/alterlint/model/LockMode;"), (6, .class_ 43), (1, u "java/lang/Enum"), (43, .methodref 1 88), (0, .nameAndType 89 90), (0, u "compareTo"), (0, u "(Ljava/lang/Enum;)I"), (25, u "blocksWrites"), (0, u "()Z"), (0, u "blocksReads"), (0, u "max"), (0, u "(Lcom/example/alterlint/alterlint/model/LockMode;)Lcom/example/alterlint/alterlint/model/LockMode;")] 4

def k6c0 : Code := { maxStack := 2, maxLocals := 1, code := prog_27_method_6_code, exceptionTable := #[], attributes := #[] }
def k6m0 : Method := { name := "blocksWrites", desc := "()Z", sig := { parameters := [], returnType := some .boolean }, accessFlags := 1, code := some k6c0 }
def k6c1 : Code := { maxStack := 2, maxLocals := 1, code := prog_27_method_7_code, exceptionTable := #[], attributes := #[] }
def k6m1 : Method := { name := "blocksReads", desc := "()Z", sig := { parameters := [], returnType := some .boolean }, accessFlags := 1, code := some k6c1 }
def k6c2 : Code := { maxStack := 2, maxLocals := 2, code := prog_27_method_8_code, exceptionTable := #[], attributes := #[] }
def k6m2 : Method := { name := "max", desc := "(Lcom/example/alterlint/alterlint/model/LockMode;)Lcom/example/alterlint/alterlint/model/LockMode;", sig := { parameters := [(.object "com/example/alterlint/alterlint/model/LockMode")], returnType := some (.object "com/example/alterlint/alterlint/model/LockMode") }, accessFlags := 1, code := some k6c2 }
/-- com/example/alterlint/alterlint/model/LockMode -/
def k6 : Class := { plain "com/example/alterlint/alterlint/model/LockMode" (some 5) with
  accessFlags := 16433
  interfaces := #[]
  cf := some (fileOf pool6 1 #[] #[{ accessFlags := 1, nameIndex := 116, descriptorIndex := 117, attributes := #[] }, { accessFlags := 1, nameIndex := 118, descriptorIndex := 117, attributes := #[] }, { accessFlags := 1, nameIndex := 119, descriptorIndex := 120, attributes := #[] }] 16433 41 #[] #[{ accessFlags := 16409, nameIndex := 5, descriptorIndex := 6, attributes := #[] }, { accessFlags := 16409, nameIndex := 9, descriptorIndex := 6, attributes := #[] }, { accessFlags := 16409, nameIndex := 12, descriptorIndex := 6, attributes := #[] }, { accessFlags := 16409, nameIndex := 15, descriptorIndex := 6, attributes := #[] }, { accessFlags := 16409, nameIndex := 18, descriptorIndex := 6, attributes := #[] }, { accessFlags := 16409, nameIndex := 21, descriptorIndex := 6, attributes := #[] }, { accessFlags := 16409, nameIndex := 24, descriptorIndex := 6, attributes := #[] }, { accessFlags := 16409, nameIndex := 27, descriptorIndex := 6, attributes := #[] }, { accessFlags := 16409, nameIndex := 30, descriptorIndex := 6, attributes := #[] }, { accessFlags := 4122, nameIndex := 33, descriptorIndex := 34, attributes := #[] }])
  fields := #[{ name := "NONE", type := (.object "com/example/alterlint/alterlint/model/LockMode"), accessFlags := 16409, slot := 0, constantValue := 0 }, { name := "ACCESS_SHARE", type := (.object "com/example/alterlint/alterlint/model/LockMode"), accessFlags := 16409, slot := 1, constantValue := 0 }, { name := "ROW_SHARE", type := (.object "com/example/alterlint/alterlint/model/LockMode"), accessFlags := 16409, slot := 2, constantValue := 0 }, { name := "ROW_EXCLUSIVE", type := (.object "com/example/alterlint/alterlint/model/LockMode"), accessFlags := 16409, slot := 3, constantValue := 0 }, { name := "SHARE_UPDATE_EXCLUSIVE", type := (.object "com/example/alterlint/alterlint/model/LockMode"), accessFlags := 16409, slot := 4, constantValue := 0 }, { name := "SHARE", type := (.object "com/example/alterlint/alterlint/model/LockMode"), accessFlags := 16409, slot := 5, constantValue := 0 }, { name := "SHARE_ROW_EXCLUSIVE", type := (.object "com/example/alterlint/alterlint/model/LockMode"), accessFlags := 16409, slot := 6, constantValue := 0 }, { name := "EXCLUSIVE", type := (.object "com/example/alterlint/alterlint/model/LockMode"), accessFlags := 16409, slot := 7, constantValue := 0 }, { name := "ACCESS_EXCLUSIVE", type := (.object "com/example/alterlint/alterlint/model/LockMode"), accessFlags := 16409, slot := 8, constantValue := 0 }, { name := "$VALUES", type := (.array (.object "com/example/alterlint/alterlint/model/LockMode")), accessFlags := 4122, slot := 9, constantValue := 0 }]
  methods := #[k6m0, k6m1, k6m2]
  instanceTypes := #[(.object "java/lang/String"), .int, .int]
  staticTypes := #[(.object "com/example/alterlint/alterlint/model/LockMode"), (.object "com/example/alterlint/alterlint/model/LockMode"), (.object "com/example/alterlint/alterlint/model/LockMode"), (.object "com/example/alterlint/alterlint/model/LockMode"), (.object "com/example/alterlint/alterlint/model/LockMode"), (.object "com/example/alterlint/alterlint/model/LockMode"), (.object "com/example/alterlint/alterlint/model/LockMode"), (.object "com/example/alterlint/alterlint/model/LockMode"), (.object "com/example/alterlint/alterlint/model/LockMode"), (.array (.object "com/example/alterlint/alterlint/model/LockMode"))]
  resolved := Array.replicate 125 none
  mirror := some 1
  statics := some 0 }

def pool7 : Array CpInfo := pool [(1, u "java/lang/Class"), (0, .class_ 1), (0, u "java/lang/Object"), (0, .class_ 3)] 3

/-- java/lang/Class -/
def k7 : Class := { plain "java/lang/Class" (some 0) with
  accessFlags := 49
  interfaces := #[]
  cf := some (fileOf pool7 2 #[] #[] 49 4 #[] #[])
  fields := #[]
  methods := #[]
  instanceTypes := #[]
  staticTypes := #[]
  resolved := Array.replicate 8 none
  statics := none }

def pool8 : Array CpInfo := pool [(1, u "java/lang/Cloneable"), (0, .class_ 1), (0, u "java/lang/Object"), (0, .class_ 3)] 3

/-- java/lang/Cloneable -/
def k8 : Class := { plain "java/lang/Cloneable" (some 0) with
  accessFlags := 1537
  interfaces := #[]
  cf := some (fileOf pool8 2 #[] #[] 1537 4 #[] #[])
  fields := #[]
  methods := #[]
  instanceTypes := #[]
  staticTypes := #[]
  resolved := Array.replicate 8 none
  statics := none }

/-- the primitive byte -/
def k9 : Class := { plain "byte" none with kind := .primitive 'B', accessFlags := 0x411 }
/-- [B -/
def k10 : Class := { plain "[B" (some 0) with kind := .array 9 .byte, interfaces := #[8, 4], accessFlags := 1041 }

/-- the primitive int -/
def k11 : Class := { plain "int" none with kind := .primitive 'I', accessFlags := 0x411 }
/-- [I -/
def k12 : Class := { plain "[I" (some 0) with kind := .array 11 .int, interfaces := #[8, 4], accessFlags := 1041 }

def heap : Heap := #[{ cls := 6, slots := #[.ref 2, .ref 3, .ref 4, .ref 5, .ref 6, .ref 7, .ref 8, .ref 9, .ref 10, .null], vm := .statics 6 },
  { cls := 7, slots := #[], vm := .mirror 6 },
  { cls := 6, slots := #[.null, .int 0, .int 0], vm := .none },
  { cls := 6, slots := #[.null, .int 1, .int 0], vm := .none },
  { cls := 6, slots := #[.null, .int 2, .int 0], vm := .none },
  { cls := 6, slots := #[.null, .int 3, .int 0], vm := .none },
  { cls := 6, slots := #[.null, .int 4, .int 0], vm := .none },
  { cls := 6, slots := #[.null, .int 5, .int 0], vm := .none },
  { cls := 6, slots := #[.null, .int 6, .int 0], vm := .none },
  { cls := 6, slots := #[.null, .int 7, .int 0], vm := .none },
  { cls := 6, slots := #[.null, .int 8, .int 0], vm := .none }]
def classes : Array Class := #[k0, k1, k2, k3, k4, k5, k6, k7, k8, k9, k10, k11, k12]
def interned : List (Array UInt16 × Addr) := []
def slotsUsed : Nat := 37
def theMethod : MethodId := ⟨1, 3⟩
def args0 : Array Value := #[.int 5, .int 2]
def aboutOver (below : List Frame) : State where
  vm := { classes := classes, interned := interned.toArray }
  heap := heap
  slotsUsed := slotsUsed
  threads := #[{ frames := .invoking theMethod args0 :: below }]
def below0 : List Frame := [.native { method := ⟨0, 0⟩, args := #[] }]
def about1 : State := aboutOver below0
def p0 : Program := .bare "" "" ""
def e0 : Env := launch0.env 0 0 0
theorem w_frames : about1.frames = Frame.invoking theMethod args0 :: below0 := rfl
set_option maxRecDepth 65536 in
theorem w_args : argsFit about1.vm theMethod args0 = true := by decide +kernel
set_option maxRecDepth 65536 in
theorem w_heap : heapFits about1 = true := by decide +kernel
set_option maxRecDepth 65536 in
theorem w_runnable : about1.curStatus? = some .runnable := by decide +kernel
set_option maxRecDepth 65536 in
theorem w_alone : about1.alone = true := by decide +kernel
set_option maxRecDepth 65536 in
theorem w_named : about1.methodNamed? x = some theMethod := by decide +kernel
set_option maxRecDepth 65536 in
theorem w_hears : about1.hears theMethod below0 = true := by decide +kernel
set_option maxRecDepth 65536 in
theorem w_ripe : about1.ripe theMethod args0 below0 = true := by decide +kernel
theorem w_running : about1.status = .running := rfl
set_option maxRecDepth 65536 in
theorem w_room : about1.hasRoom e0.platform room_1 = true :=
  launch0.hasRoom_least _ room_1 (by decide +kernel) (by decide +kernel) (by decide +kernel) (by decide +kernel) (by decide +kernel) (by decide +kernel)
theorem allAtoms_all (ts : List Jvm.Cond) (a : Array Jvm.Value) (st : Jvm.State) : (allAtoms ts).before a st = ts.all (fun c => c.before a st) := by
  induction ts with
  | nil => rfl
  | cons c t ih =>
    show (Jvm.Cond.and c (allAtoms t)).before a st = _
    rw [Jvm.Cond.before_and, ih, List.all_cons]
def words1 : List Jvm.Cond := Jvm.Cond.code x code maxLocals ret :: tables_1
/-- a 'code' word, met by the world's own term for the bytes: nothing is compared byte by byte -/
theorem code_word {y : MethodName} {bytes : ByteArray} {mx : Nat} {rt : Option FieldType} {a : Array Value} {s : State} {m : MethodId} {meth : Method} {c : Code} (h1 : s.methodNamed? y = some m) (h2 : s.vm.method? m = some meth) (h3 : meth.code = some c) (h4 : c.code = bytes)
    (h5 : (c.maxLocals == mx && c.exceptionTable.isEmpty && decide (c.maxStack ≤ mostOperands) && decide (meth.sig.returnType = rt) && !meth.locks && decide (parseMethodDescriptor y.desc = some meth.sig)) = true) : (Jvm.Cond.code y bytes mx rt).before a s = true := by
  simp only [Bool.and_eq_true, beq_iff_eq, Bool.not_eq_true', decide_eq_true_eq] at h5
  obtain ⟨⟨⟨⟨⟨g1, g2⟩, g3⟩, g4⟩, g5⟩, g6⟩ := h5
  simp [Cond.before, Cond.holds, Cond.value, h1, h2, h3, h4, g1, g2, g3, g4, g5, g6]
def isCode : Jvm.Cond → Bool
  | .code _ _ _ _ => true
  | _ => false
theorem all_split {L : List Jvm.Cond} {P : Jvm.Cond → Bool} (h1 : L.all (fun c => isCode c || P c) = true) (h2 : ∀ c ∈ L.filter isCode, P c = true) : L.all P = true := by
  refine List.all_eq_true.mpr fun c hc => ?_
  have h := List.all_eq_true.mp h1 c hc
  rcases Bool.eq_false_or_eq_true (isCode c) with hi | hi
  · exact h2 c (List.mem_filter.mpr ⟨hc, hi⟩)
  · simpa [hi] using h
set_option maxRecDepth 65536 in
theorem w_c0 : (Jvm.Cond.code x code maxLocals ret).before args0 about1 = true := code_word (m := ⟨1, 3⟩) (meth := k1m3) (c := k1c3) (by decide +kernel) rfl rfl rfl (by decide +kernel)
set_option maxRecDepth 65536 in
theorem w_c1 : (Jvm.Cond.code ({ cls := "com/example/alterlint/alterlint/model/LockModeBlocksReadsPinLaw", name := "mode", desc := "(I)Lcom/example/alterlint/alterlint/model/LockMode;" } : Jvm.MethodName) method_2_code (1 : Nat) (Option.some (Jvm.ClassFile.FieldType.object "com/example/alterlint/alterlint/model/LockMode"))).before args0 about1 = true := code_word (m := ⟨1, 1⟩) (meth := k1m1) (c := k1c1) (by decide +kernel) rfl rfl rfl (by decide +kernel)
set_option maxRecDepth 65536 in
theorem w_c2 : (Jvm.Cond.code ({ cls := "com/example/alterlint/alterlint/model/LockMode", name := "blocksReads", desc := "()Z" } : Jvm.MethodName) prog_27_method_7_code (1 : Nat) (Option.some Jvm.ClassFile.FieldType.boolean)).before args0 about1 = true := code_word (m := ⟨6, 1⟩) (meth := k6m1) (c := k6c1) (by decide +kernel) rfl rfl rfl (by decide +kernel)
set_option maxRecDepth 65536 in
theorem w_c3 : (Jvm.Cond.code ({ cls := "com/example/alterlint/alterlint/model/LockModeBlocksReadsPinLaw", name := "conflictsWithAccessShare", desc := "(I)Z" } : Jvm.MethodName) method_3_code (1 : Nat) (Option.some Jvm.ClassFile.FieldType.boolean)).before args0 about1 = true := code_word (m := ⟨1, 2⟩) (meth := k1m2) (c := k1c2) (by decide +kernel) rfl rfl rfl (by decide +kernel)
set_option maxRecDepth 65536 in
theorem w_c4 : (Jvm.Cond.code ({ cls := "com/example/alterlint/alterlint/model/LockMode", name := "max", desc := "(Lcom/example/alterlint/alterlint/model/LockMode;)Lcom/example/alterlint/alterlint/model/LockMode;" } : Jvm.MethodName) prog_27_method_8_code (2 : Nat) (Option.some (Jvm.ClassFile.FieldType.object "com/example/alterlint/alterlint/model/LockMode"))).before args0 about1 = true := code_word (m := ⟨6, 2⟩) (meth := k6m2) (c := k6c2) (by decide +kernel) rfl rfl rfl (by decide +kernel)
set_option maxRecDepth 65536 in
theorem w_c5 : (Jvm.Cond.code ({ cls := "java/lang/Enum", name := "compareTo", desc := "(Ljava/lang/Enum;)I" } : Jvm.MethodName) jdk_37_method_8_code (4 : Nat) (Option.some Jvm.ClassFile.FieldType.int)).before args0 about1 = true := code_word (m := ⟨5, 0⟩) (meth := k5m0) (c := k5c0) (by decide +kernel) rfl rfl rfl (by decide +kernel)
set_option maxRecDepth 65536 in
theorem w_c6 : (Jvm.Cond.code ({ cls := "com/example/alterlint/alterlint/model/LockMode", name := "blocksWrites", desc := "()Z" } : Jvm.MethodName) prog_27_method_6_code (1 : Nat) (Option.some Jvm.ClassFile.FieldType.boolean)).before args0 about1 = true := code_word (m := ⟨6, 0⟩) (meth := k6m0) (c := k6c0) (by decide +kernel) rfl rfl rfl (by decide +kernel)
def codes1 : List Jvm.Cond := [Jvm.Cond.code x code maxLocals ret, Jvm.Cond.code ({ cls := "com/example/alterlint/alterlint/model/LockModeBlocksReadsPinLaw", name := "mode", desc := "(I)Lcom/example/alterlint/alterlint/model/LockMode;" } : Jvm.MethodName) method_2_code (1 : Nat) (Option.some (Jvm.ClassFile.FieldType.object "com/example/alterlint/alterlint/model/LockMode")), Jvm.Cond.code ({ cls := "com/example/alterlint/alterlint/model/LockMode", name := "blocksReads", desc := "()Z" } : Jvm.MethodName) prog_27_method_7_code (1 : Nat) (Option.some Jvm.ClassFile.FieldType.boolean), Jvm.Cond.code ({ cls := "com/example/alterlint/alterlint/model/LockModeBlocksReadsPinLaw", name := "conflictsWithAccessShare", desc := "(I)Z" } : Jvm.MethodName) method_3_code (1 : Nat) (Option.some Jvm.ClassFile.FieldType.boolean), Jvm.Cond.code ({ cls := "com/example/alterlint/alterlint/model/LockMode", name := "max", desc := "(Lcom/example/alterlint/alterlint/model/LockMode;)Lcom/example/alterlint/alterlint/model/LockMode;" } : Jvm.MethodName) prog_27_method_8_code (2 : Nat) (Option.some (Jvm.ClassFile.FieldType.object "com/example/alterlint/alterlint/model/LockMode")), Jvm.Cond.code ({ cls := "java/lang/Enum", name := "compareTo", desc := "(Ljava/lang/Enum;)I" } : Jvm.MethodName) jdk_37_method_8_code (4 : Nat) (Option.some Jvm.ClassFile.FieldType.int), Jvm.Cond.code ({ cls := "com/example/alterlint/alterlint/model/LockMode", name := "blocksWrites", desc := "()Z" } : Jvm.MethodName) prog_27_method_6_code (1 : Nat) (Option.some Jvm.ClassFile.FieldType.boolean)]
set_option maxRecDepth 65536 in
theorem codes_eq : words1.filter isCode = codes1 := rfl
theorem w_codes : ∀ c ∈ words1.filter isCode, c.before args0 about1 = true := by
  rw [codes_eq]
  intro c hc
  simp only [codes1, List.mem_cons, List.not_mem_nil, or_false] at hc
  rcases hc with rfl | rfl | rfl | rfl | rfl | rfl | rfl
  · exact w_c0
  · exact w_c1
  · exact w_c2
  · exact w_c3
  · exact w_c4
  · exact w_c5
  · exact w_c6
set_option maxRecDepth 65536 in
theorem w_t1 : (words1.take 24).all (fun c => isCode c || c.before args0 about1) = true := by decide +kernel
set_option maxRecDepth 65536 in
theorem w_t2 : ((words1.drop 24).take 24).all (fun c => isCode c || c.before args0 about1) = true := by decide +kernel
set_option maxRecDepth 65536 in
theorem w_t3 : ((words1.drop 24).drop 24).all (fun c => isCode c || c.before args0 about1) = true := by decide +kernel
theorem w_tables : (allAtoms (Jvm.Cond.code x code maxLocals ret :: tables_1)).before args0 about1 = true := by
  rw [allAtoms_all]
  show words1.all (fun c => c.before args0 about1) = true
  refine all_split ?_ w_codes
  rw [← List.take_append_drop 24 words1, List.all_append, w_t1, ← List.take_append_drop 24 (words1.drop 24), List.all_append, w_t2, w_t3]
  rfl
set_option maxRecDepth 65536 in
theorem w_case : (Jvm.Cond.and given_1 narrow_1).before args0 about1 = true := by decide +kernel
theorem w_applies : (headSpec (Jvm.Cond.code x code maxLocals ret :: tables_1) room_1).applies x e0.platform about1 = true :=
  (Spec.applies_iff w_frames).mpr ⟨w_running, w_runnable, w_alone, w_named, w_hears, w_ripe, w_room, w_tables⟩
theorem atStart : AtStart classFile x code maxLocals ret World_1 tables_1 room_1 Calls_1 rest_1 Pre_1 launch0 p0 e0 about1 theMethod args0 below0 :=
  ⟨lists_1, trivial, launch0.admits_env _ _ _, launch0.least_env, fairChoices_fair.cas, fairChoices_fair.clock, w_frames, w_args, w_heap, w_applies, ⟨⟨6, k6, 1, by decide +kernel, rfl, rfl, _, rfl, rfl⟩, trivial⟩, trivial, w_case⟩
end start1
theorem witness_1 : WitnessClaimed_1 := ⟨start1.p0, start1.e0, start1.about1, start1.theMethod, start1.args0, start1.below0, start1.atStart⟩
end Jvm.Pilot.@@N@@
