import JvmDerived
import JvmDerived.Pilot.@@N@@Statement
import JvmDerived.Pilot.@@N@@Code
set_option linter.unusedVariables false
set_option linter.unusedSimpArgs false
namespace Jvm.RoadKit
open Sem ClassFile Op Lib Jvm.Stand Jvm.Free Jvm.LawKit
section New
variable {p : Program} {l : Launch} {e : Env} {R : Room} {s : State} {m : MethodId} {args : Array Value} {below : List Frame} {meth : Method} {c : Code} {T : State} {locs : List Loc} {cells slots : Nat}
theorem retI (X : Stand p l e R s m args below meth c T locs cells slots) (hx : p.tables.exec = Jvm.exec) {pc : Nat} {Ls : Array Slot} {z : Int32} {rest : List Value} (hret : meth.sig.returnType = some .int) (hd : decode c.code pc = .ok (.ireturn, 1)) {fs : List Frame}
    (hl : ∀ (f : JFrame) (acts : List Action), f.method = m → f.locked = none → f.entered = [] → (doReturn e (T.setTop f) acts (some (.int z))).1 = T.setFrames fs) : Steps p.tables e below (T.setTop (mkF m pc Ls (.int z :: rest))) (T.setFrames fs) := by
  have hm' : T.vm.method? m = some meth := X.method'
  have hn : narrow .int (.int z) = .int z := rfl
  show Steps p.tables e below (T.setTop { method := m, pc := pc, locals := Ls, stack := _ :: rest, locked := none }) _
  jvm_step X.here [X.here.top, hx, hd, hm', hret, hn]
  first | (intro acts; rw [hl _ acts rfl rfl rfl]) | rw [hl _ _ rfl rfl rfl]
  exact Steps.refl _
end New
end Jvm.RoadKit
namespace Jvm.Pilot.@@N@@
open Jvm Jvm.ClassFile Sem Op Lib Jvm.Free Jvm.Stand Jvm.LawKit Jvm.RoadKit Bundle Jvm.Pilot.@@N@@.Jvm.D
theorem own_d2_0 : decode prog_25_method_7_code 0 = .ok (.iconst 1, 1) := by decide +kernel
theorem own_d2_1 : decode prog_25_method_7_code 1 = .ok (.bipush 15, 2) := by decide +kernel
theorem own_d2_3 : decode prog_25_method_7_code 3 = .ok (.iload_n 0, 1) := by decide +kernel
theorem own_d2_4 : decode prog_25_method_7_code 4 = .ok (.isub, 1) := by decide +kernel
theorem own_d2_5 : decode prog_25_method_7_code 5 = .ok (.ishl, 1) := by decide +kernel
theorem own_d2_6 : decode prog_25_method_7_code 6 = .ok (.ireturn, 1) := by decide +kernel
theorem own_pn0 : plainName "com/example/postbag/postbag/protocol/ContentHeader" = true := by first | (simp [plainName, overriddenIn]; done) | decide +kernel
theorem own_ef_rm2 (m : MethodId)  : entryFrame m #[(.int (3 : Int32))] 1 = mkF m 0 #[.val (.int (3 : Int32))] [] := by first | (simp [entryFrame, mkF, argsToLocals, Value.category]; done) | rfl
def Q2 (Z : State)  (h0 : Heap) (n0 : Nat) (v : Option Value) (h : Heap) (L : List Loc) : Prop := v = some (.int (4096 : Int32)) ∧ Fr n0 L ∧ h = h0
set_option maxRecDepth 65536 in
set_option maxHeartbeats 40000000 in
theorem rm2 (l : Launch) (Z : State) (a0 : Array Value) (hw : ∀ d ∈ tables_1, d.before a0 Z = true) (ws : List Jvm.Cond)  (h0 : Heap) (n0 : Nat) (Z0 : n0 ≤ h0.size) :
    MetFree l (⟨"com/example/postbag/postbag/protocol/ContentHeader", "flag", "(I)I"⟩ : MethodName) (head1 (Jvm.Cond.code (⟨"com/example/postbag/postbag/protocol/ContentHeader", "flag", "(I)I"⟩ : MethodName) prog_25_method_7_code 1 (some .int) :: ws) ({ frames := 0, cells := 0, slots := 0, locals := 0 } : Room)) (fun a U => a = #[(.int (3 : Int32))] ∧ Z.Warmed39 U.vm ∧ U.heap = h0) (fun _ _ _ _ _ => True) (fun _ U o U' => ∃ v L, o = .returned v ∧ Q2 Z  h0 n0 v U'.heap L ∧ FrameEnd U o U' L ({ frames := 0, cells := 0, slots := 0, locals := 0 } : Room).cells ({ frames := 0, cells := 0, slots := 0, locals := 0 } : Room).slots) := by
  refine MetFree.of_bodySF (plainFor_of_name own_pn0) hisR ?_
  intro p e s m args below meth c s₁ Bd hml0 hP hK
  obtain ⟨rfl, hZ, hh⟩ := hP
  have hx := Bd.exec
  have hby := Bd.bytes
  have hml : c.maxLocals = 1 := hml0
  have hown : s.vm.findClass "com/example/postbag/postbag/protocol/ContentHeader" = some m.cls := findClass_of_methodNamed Bd.named
  have hnm := (name_of_methodNamed Bd.named Bd.method).1
  have X0 : Stand p l e ({ frames := 0, cells := 0, slots := 0, locals := 0 } : Room) s m #[(.int (3 : Int32))] below meth c s₁ [] 0 0 := Stand.of_body Bd
  have e0 : s₁.heap = h0 := by rw [← hh, Bd.state]; rfl
  have N0 := Fr.nil n0
  have K0 : Keep h0 h0 [] := Keep.refl h0 _
  have pre0 : ∀ t, Steps p.tables e below (s₁.setTop (mkF m 0 #[.val (.int (3 : Int32))] [])) t → Steps p.tables e below (s₁.setTop (entryFrame m #[(.int (3 : Int32))] 1)) t := fun t k => castTop (own_ef_rm2 m ) k
  obtain ⟨fs, hr, hrun, hended, hW, hsame⟩ := X0.leave (v := some (.int (4096 : Int32))) (fun h => by rw [Bd.returns] at h; cases h)
  refine ⟨_, _, pre0 _ ?_, hrun, hended, _, _, rfl, ?_, ⟨_, rfl⟩, hW, hsame.mono (by decide) (by decide)⟩
  · show Steps p.tables e below (s₁.setTop (mkF m 0 #[.val (.int (3 : Int32))] [])) _
    refine XS.iconst X0.here hx rfl (hb hby own_d2_0) ?_
    show Steps p.tables e below (s₁.setTop (mkF m 1 #[.val (.int (3 : Int32))] [(.int (1 : Int32))])) _
    refine XS.bipush X0.here hx rfl (hb hby own_d2_1) ?_
    show Steps p.tables e below (s₁.setTop (mkF m 3 #[.val (.int (3 : Int32))] [(.int (15 : Int32)), (.int (1 : Int32))])) _
    refine XS.iloadN X0.here hx rfl (hb hby own_d2_3) rfl ?_
    show Steps p.tables e below (s₁.setTop (mkF m 4 #[.val (.int (3 : Int32))] [(.int (3 : Int32)), (.int (15 : Int32)), (.int (1 : Int32))])) _
    refine XS.isub X0.here hx rfl (hb hby own_d2_4) rfl ?_
    show Steps p.tables e below (s₁.setTop (mkF m 5 #[.val (.int (3 : Int32))] [(.int (12 : Int32)), (.int (1 : Int32))])) _
    refine XS.ishl X0.here hx rfl (hb hby own_d2_5) rfl ?_
    show Steps p.tables e below (s₁.setTop (mkF m 6 #[.val (.int (3 : Int32))] [(.int (4096 : Int32))])) _
    exact retI X0 hx Bd.returns (hb hby own_d2_6) hr
  · show Q2 Z  h0 n0 _ s₁.heap _
    rw [e0]
    exact ⟨rfl, N0, rfl⟩
theorem own_d1_0 : decode prog_25_method_3_code 0 = .ok (.iconst 3, 1) := by decide +kernel
theorem own_d1_1 : decode prog_25_method_3_code 1 = .ok (.invokestatic 74, 3) := by decide +kernel
theorem own_pd0 : parseMethodDescriptor "(I)I" = some ⟨[.int], some .int⟩ := by decide +kernel
theorem own_d1_4 : decode prog_25_method_3_code 4 = .ok (.istore_n 1, 1) := by decide +kernel
theorem own_d1_5 : decode prog_25_method_3_code 5 = .ok (.iconst 3, 1) := by decide +kernel
theorem own_d1_6 : decode prog_25_method_3_code 6 = .ok (.newarray .byte, 2) := by decide +kernel
theorem own_d1_8 : decode prog_25_method_3_code 8 = .ok (.dup, 1) := by decide +kernel
theorem own_d1_9 : decode prog_25_method_3_code 9 = .ok (.iconst 0, 1) := by decide +kernel
theorem own_d1_10 : decode prog_25_method_3_code 10 = .ok (.iload_n 1, 1) := by decide +kernel
theorem own_d1_11 : decode prog_25_method_3_code 11 = .ok (.bipush 8, 2) := by decide +kernel
theorem own_d1_13 : decode prog_25_method_3_code 13 = .ok (.iushr, 1) := by decide +kernel
theorem own_d1_14 : decode prog_25_method_3_code 14 = .ok (.i2b, 1) := by decide +kernel
theorem own_d1_15 : decode prog_25_method_3_code 15 = .ok (.bastore, 1) := by decide +kernel
theorem own_d1_16 : decode prog_25_method_3_code 16 = .ok (.dup, 1) := by decide +kernel
theorem own_d1_17 : decode prog_25_method_3_code 17 = .ok (.iconst 1, 1) := by decide +kernel
theorem own_d1_18 : decode prog_25_method_3_code 18 = .ok (.iload_n 1, 1) := by decide +kernel
theorem own_d1_19 : decode prog_25_method_3_code 19 = .ok (.i2b, 1) := by decide +kernel
theorem own_d1_20 : decode prog_25_method_3_code 20 = .ok (.bastore, 1) := by decide +kernel
theorem own_d1_21 : decode prog_25_method_3_code 21 = .ok (.dup, 1) := by decide +kernel
theorem own_d1_22 : decode prog_25_method_3_code 22 = .ok (.iconst 2, 1) := by decide +kernel
theorem own_d1_23 : decode prog_25_method_3_code 23 = .ok (.iload_n 0, 1) := by decide +kernel
theorem own_d1_24 : decode prog_25_method_3_code 24 = .ok (.ifCond .eq 7, 3) := by decide +kernel
theorem own_d1_27 : decode prog_25_method_3_code 27 = .ok (.iconst 2, 1) := by decide +kernel
theorem own_d1_28 : decode prog_25_method_3_code 28 = .ok (.goto 4, 3) := by decide +kernel
theorem own_d1_32 : decode prog_25_method_3_code 32 = .ok (.i2b, 1) := by decide +kernel
theorem own_d1_33 : decode prog_25_method_3_code 33 = .ok (.bastore, 1) := by decide +kernel
theorem own_d1_34 : decode prog_25_method_3_code 34 = .ok (.areturn, 1) := by decide +kernel
theorem own_ef_rm1_1 (m : MethodId)  : entryFrame m #[(.int (1 : Int32))] 2 = mkF m 0 #[.val (.int (1 : Int32)), .unset] [] := by first | (simp [entryFrame, mkF, argsToLocals, Value.category]; done) | rfl
def Q1_1 (Z : State)  (h0 : Heap) (n0 : Nat) (v : Option Value) (h : Heap) (L : List Loc) : Prop := ∃ b : Addr, ∃ k : ClassId, v = some (.ref b) ∧ Fr n0 L ∧ Keep h0 h [] ∧ h0.size ≤ b ∧ Arv Z h b k .byte (3 : Int32) [(.int (16 : Int32)), (.int (0 : Int32)), (.int (2 : Int32))] (.int (0 : Int32))
set_option maxRecDepth 65536 in
set_option maxHeartbeats 40000000 in
theorem rm1_1 (l : Launch) (Z : State) (a0 : Array Value) (hw : ∀ d ∈ tables_1, d.before a0 Z = true) (ws : List Jvm.Cond)  (h0 : Heap) (n0 : Nat) (Z0 : n0 ≤ h0.size) :
    MetFree l (⟨"com/example/postbag/postbag/protocol/ContentHeader", "deliveryModeProperties", "(Z)[B"⟩ : MethodName) (head1 (Jvm.Cond.code (⟨"com/example/postbag/postbag/protocol/ContentHeader", "deliveryModeProperties", "(Z)[B"⟩ : MethodName) prog_25_method_3_code 2 (some (.array .byte)) :: ws) ({ frames := 1, cells := 1, slots := 3, locals := 12 } : Room)) (fun a U => a = #[(.int (1 : Int32))] ∧ Z.Warmed39 U.vm ∧ U.heap = h0) (fun _ _ _ _ _ => True) (fun _ U o U' => ∃ v L, o = .returned v ∧ Q1_1 Z  h0 n0 v U'.heap L ∧ FrameEnd U o U' L ({ frames := 1, cells := 1, slots := 3, locals := 12 } : Room).cells ({ frames := 1, cells := 1, slots := 3, locals := 12 } : Room).slots) := by
  refine MetFree.of_bodySF (plainFor_of_name own_pn0) hisR ?_
  intro p e s m args below meth c s₁ Bd hml0 hP hK
  obtain ⟨rfl, hZ, hh⟩ := hP
  have hx := Bd.exec
  have hby := Bd.bytes
  have hml : c.maxLocals = 2 := hml0
  have hown : s.vm.findClass "com/example/postbag/postbag/protocol/ContentHeader" = some m.cls := findClass_of_methodNamed Bd.named
  have hnm := (name_of_methodNamed Bd.named Bd.method).1
  have X0 : Stand p l e ({ frames := 1, cells := 1, slots := 3, locals := 12 } : Room) s m #[(.int (1 : Int32))] below meth c s₁ [] 0 0 := Stand.of_body Bd
  have e0 : s₁.heap = h0 := by rw [← hh, Bd.state]; rfl
  have N0 := Fr.nil n0
  have K0 : Keep h0 h0 [] := Keep.refl h0 _
  have pre0 : ∀ t, Steps p.tables e below (s₁.setTop (mkF m 0 #[.val (.int (1 : Int32)), .unset] [])) t → Steps p.tables e below (s₁.setTop (entryFrame m #[(.int (1 : Int32))] 2)) t := fun t k => castTop (own_ef_rm1_1 m ) k
  obtain ⟨_, _, ⟨T1, L1, k1, n1⟩, -, X1, ⟨Lc1, hQ1, l1, y1, z1⟩, st1⟩ := Jvm.LawKit.callS X0 hx (y := (⟨"com/example/postbag/postbag/protocol/ContentHeader", "flag", "(I)I"⟩ : MethodName)) hown (mvT hZ (hw _ (List.mem_of_getElem? (i := 4) rfl))) (mvT hZ (hw _ (List.mem_of_getElem? (i := 5) rfl))) (mvT hZ (hw _ (List.mem_of_getElem? (i := 2) rfl))) (mvT hZ (hw _ (List.mem_of_getElem? (i := 6) rfl))) (by decide) (backOf (W := 0) (rm2 l Z a0 hw []  h0 n0 (Nat.le_trans Z0 K0.1) ) hZ (hw _ (List.mem_of_getElem? (i := 6) rfl)) (hw _ (List.mem_of_getElem? (i := 2) rfl)) (by decide) (by decide)) (g := (mkF m 1 #[.val (.int (1 : Int32)), .unset] [(.int (3 : Int32))])) rfl (by rw [hml]; rfl) (argsL := [(.int (3 : Int32))]) (rest := []) (lenOf own_pd0 rfl) rfl (by show 2 * 0 + _ ≤ _; exact Nat.le_of_eq rfl) (hb hby own_d1_1) (fun _ _ => ⟨rfl, e0, (by decide : 0 + 0 ≤ _), (by decide : 0 + 0 ≤ _)⟩)
  dsimp only [Pt.U, Pt.locs, Pt.cells, Pt.slots] at X1 l1 y1 z1 st1 hQ1
  subst l1 y1 z1
  obtain ⟨rfl, N1q, e1⟩ := hQ1
  have N1 := Fr.app N0 N1q
  obtain ⟨T2, h2, k2, X2, e2, E2, A2, st2⟩ := newP X1 hx hZ (hw _ (List.mem_of_getElem? (i := 7) rfl)) e1 (g := (mkF m 6 #[.val (.int (1 : Int32)), .val (.int (4096 : Int32))] [(.int (3 : Int32))])) rfl (hb hby own_d1_6) rfl (by decide) (cap := 3) (by decide) (by decide) (by decide) (by decide)
  obtain ⟨b2, g2⟩ : ∃ z, z = h0.size := ⟨_, rfl⟩
  rw [← g2] at A2 st2
  have gg_b2 : n0 ≤ b2 := Nat.le_trans (Nat.le_trans Z0 K0.1) (Nat.le_of_eq g2.symm)
  have sz_b2 : h0.size ≤ b2 := Nat.le_trans K0.1 (Nat.le_of_eq g2.symm)
  have K2 := K0.ext E2
  have V2 : Arv Z h2 b2 k2 .byte (3 : Int32) [(.int (0 : Int32)), (.int (0 : Int32)), (.int (0 : Int32))] (.int (0 : Int32)) := (Arv.new A2 (by decide)).pad (pad_rep [] (.int (0 : Int32)) 3)
  obtain ⟨cl3, Ar3, q3, S3, M3, H3, G3⟩ := id V2
  have hin3 : ¬ ((0 : Int32) < 0 ∨ cl3.slots.size ≤ ((0 : Int32)).toNatClampNeg) := inb_of S3 ⟨by decide, by decide⟩
  obtain ⟨T4, h4, X4, e4, W4, st4⟩ := stB X2 hx hZ e2 Ar3 (j := (0 : Int32)) hin3 (g := (mkF m 15 #[.val (.int (1 : Int32)), .val (.int (4096 : Int32))] [(.int (16 : Int32)), (.int (0 : Int32)), (.ref b2), (.ref b2)])) rfl rfl (hb hby own_d1_15)
  have V4 : Arv Z h4 b2 k2 .byte (3 : Int32) [(.int (16 : Int32)), (.int (0 : Int32)), (.int (0 : Int32))] (.int (0 : Int32)) := Arv.set Ar3 q3 S3 M3 H3 G3 (fits_nar_byte _) W4 0 rfl (Nat.le_of_ble_eq_true rfl)
  have K4 := K2.wr W4 (Or.inr sz_b2)
  have N4 := Fr.snoc X4 N1 gg_b2
  obtain ⟨cl5, Ar5, q5, S5, M5, H5, G5⟩ := id V4
  have hin5 : ¬ ((1 : Int32) < 0 ∨ cl5.slots.size ≤ ((1 : Int32)).toNatClampNeg) := inb_of S5 ⟨by decide, by decide⟩
  obtain ⟨T6, h6, X6, e6, W6, st6⟩ := stB X4 hx hZ e4 Ar5 (j := (1 : Int32)) hin5 (g := (mkF m 20 #[.val (.int (1 : Int32)), .val (.int (4096 : Int32))] [(.int (0 : Int32)), (.int (1 : Int32)), (.ref b2), (.ref b2)])) rfl rfl (hb hby own_d1_20)
  have V6 : Arv Z h6 b2 k2 .byte (3 : Int32) [(.int (16 : Int32)), (.int (0 : Int32)), (.int (0 : Int32))] (.int (0 : Int32)) := Arv.set Ar5 q5 S5 M5 H5 G5 (fits_nar_byte _) W6 1 rfl (Nat.le_of_ble_eq_true rfl)
  have K6 := K4.wr W6 (Or.inr sz_b2)
  have N6 := Fr.snoc X6 N4 gg_b2
  obtain ⟨cl7, Ar7, q7, S7, M7, H7, G7⟩ := id V6
  have hin7 : ¬ ((2 : Int32) < 0 ∨ cl7.slots.size ≤ ((2 : Int32)).toNatClampNeg) := inb_of S7 ⟨by decide, by decide⟩
  obtain ⟨T8, h8, X8, e8, W8, st8⟩ := stB X6 hx hZ e6 Ar7 (j := (2 : Int32)) hin7 (g := (mkF m 33 #[.val (.int (1 : Int32)), .val (.int (4096 : Int32))] [(.int (2 : Int32)), (.int (2 : Int32)), (.ref b2), (.ref b2)])) rfl rfl (hb hby own_d1_33)
  have V8 : Arv Z h8 b2 k2 .byte (3 : Int32) [(.int (16 : Int32)), (.int (0 : Int32)), (.int (2 : Int32))] (.int (0 : Int32)) := Arv.set Ar7 q7 S7 M7 H7 G7 (fits_nar_byte _) W8 2 rfl (Nat.le_of_ble_eq_true rfl)
  have K8 := K6.wr W8 (Or.inr sz_b2)
  have N8 := Fr.snoc X8 N6 gg_b2
  obtain ⟨fs, hr, hrun, hended, hW, hsame⟩ := X8.leave (v := some (.ref b2)) (fun h => by rw [Bd.returns] at h; cases h)
  refine ⟨_, _, pre0 _ ?_, hrun, hended, _, _, rfl, ?_, ⟨_, rfl⟩, hW, hsame.mono (by decide) (by decide)⟩
  · show Steps p.tables e below (s₁.setTop (mkF m 0 #[.val (.int (1 : Int32)), .unset] [])) _
    refine XS.iconst X0.here hx rfl (hb hby own_d1_0) ?_
    show Steps p.tables e below (s₁.setTop (mkF m 1 #[.val (.int (1 : Int32)), .unset] [(.int (3 : Int32))])) _
    refine st1 _ ?_
    show Steps p.tables e below (T1.setTop (mkF m 4 #[.val (.int (1 : Int32)), .unset] [(.int (4096 : Int32))])) _
    refine XS.istoreN X1.here hx rfl (hb hby own_d1_4) rfl (l' := #[.val (.int (1 : Int32)), .val (.int (4096 : Int32))]) rfl ?_
    show Steps p.tables e below (T1.setTop (mkF m 5 #[.val (.int (1 : Int32)), .val (.int (4096 : Int32))] [])) _
    refine XS.iconst X1.here hx rfl (hb hby own_d1_5) ?_
    show Steps p.tables e below (T1.setTop (mkF m 6 #[.val (.int (1 : Int32)), .val (.int (4096 : Int32))] [(.int (3 : Int32))])) _
    refine st2 _ ?_
    show Steps p.tables e below (T2.setTop (mkF m 8 #[.val (.int (1 : Int32)), .val (.int (4096 : Int32))] [(.ref b2)])) _
    refine XS.dup X2.here hx rfl (hb hby own_d1_8) rfl rfl ?_
    show Steps p.tables e below (T2.setTop (mkF m 9 #[.val (.int (1 : Int32)), .val (.int (4096 : Int32))] [(.ref b2), (.ref b2)])) _
    refine XS.iconst X2.here hx rfl (hb hby own_d1_9) ?_
    show Steps p.tables e below (T2.setTop (mkF m 10 #[.val (.int (1 : Int32)), .val (.int (4096 : Int32))] [(.int (0 : Int32)), (.ref b2), (.ref b2)])) _
    refine XS.iloadN X2.here hx rfl (hb hby own_d1_10) rfl ?_
    show Steps p.tables e below (T2.setTop (mkF m 11 #[.val (.int (1 : Int32)), .val (.int (4096 : Int32))] [(.int (4096 : Int32)), (.int (0 : Int32)), (.ref b2), (.ref b2)])) _
    refine XS.bipush X2.here hx rfl (hb hby own_d1_11) ?_
    show Steps p.tables e below (T2.setTop (mkF m 13 #[.val (.int (1 : Int32)), .val (.int (4096 : Int32))] [(.int (8 : Int32)), (.int (4096 : Int32)), (.int (0 : Int32)), (.ref b2), (.ref b2)])) _
    refine XS.iushr X2.here hx rfl (hb hby own_d1_13) rfl ?_
    show Steps p.tables e below (T2.setTop (mkF m 14 #[.val (.int (1 : Int32)), .val (.int (4096 : Int32))] [(.int (16 : Int32)), (.int (0 : Int32)), (.ref b2), (.ref b2)])) _
    refine XS.i2b X2.here hx rfl (hb hby own_d1_14) rfl ?_
    show Steps p.tables e below (T2.setTop (mkF m 15 #[.val (.int (1 : Int32)), .val (.int (4096 : Int32))] [(.int (16 : Int32)), (.int (0 : Int32)), (.ref b2), (.ref b2)])) _
    refine st4 _ ?_
    show Steps p.tables e below (T4.setTop (mkF m 16 #[.val (.int (1 : Int32)), .val (.int (4096 : Int32))] [(.ref b2)])) _
    refine XS.dup X4.here hx rfl (hb hby own_d1_16) rfl rfl ?_
    show Steps p.tables e below (T4.setTop (mkF m 17 #[.val (.int (1 : Int32)), .val (.int (4096 : Int32))] [(.ref b2), (.ref b2)])) _
    refine XS.iconst X4.here hx rfl (hb hby own_d1_17) ?_
    show Steps p.tables e below (T4.setTop (mkF m 18 #[.val (.int (1 : Int32)), .val (.int (4096 : Int32))] [(.int (1 : Int32)), (.ref b2), (.ref b2)])) _
    refine XS.iloadN X4.here hx rfl (hb hby own_d1_18) rfl ?_
    show Steps p.tables e below (T4.setTop (mkF m 19 #[.val (.int (1 : Int32)), .val (.int (4096 : Int32))] [(.int (4096 : Int32)), (.int (1 : Int32)), (.ref b2), (.ref b2)])) _
    refine XS.i2b X4.here hx rfl (hb hby own_d1_19) rfl ?_
    show Steps p.tables e below (T4.setTop (mkF m 20 #[.val (.int (1 : Int32)), .val (.int (4096 : Int32))] [(.int (0 : Int32)), (.int (1 : Int32)), (.ref b2), (.ref b2)])) _
    refine st6 _ ?_
    show Steps p.tables e below (T6.setTop (mkF m 21 #[.val (.int (1 : Int32)), .val (.int (4096 : Int32))] [(.ref b2)])) _
    refine XS.dup X6.here hx rfl (hb hby own_d1_21) rfl rfl ?_
    show Steps p.tables e below (T6.setTop (mkF m 22 #[.val (.int (1 : Int32)), .val (.int (4096 : Int32))] [(.ref b2), (.ref b2)])) _
    refine XS.iconst X6.here hx rfl (hb hby own_d1_22) ?_
    show Steps p.tables e below (T6.setTop (mkF m 23 #[.val (.int (1 : Int32)), .val (.int (4096 : Int32))] [(.int (2 : Int32)), (.ref b2), (.ref b2)])) _
    refine XS.iloadN X6.here hx rfl (hb hby own_d1_23) rfl ?_
    show Steps p.tables e below (T6.setTop (mkF m 24 #[.val (.int (1 : Int32)), .val (.int (4096 : Int32))] [(.int (1 : Int32)), (.int (2 : Int32)), (.ref b2), (.ref b2)])) _
    refine XS.ifNo X6.here hx rfl (hb hby own_d1_24) rfl ((if0 _ _).trans (feq (by decide : ¬ ((1 : Int32) = (0 : Int32)))).1) ?_
    show Steps p.tables e below (T6.setTop (mkF m 27 #[.val (.int (1 : Int32)), .val (.int (4096 : Int32))] [(.int (2 : Int32)), (.ref b2), (.ref b2)])) _
    refine XS.iconst X6.here hx rfl (hb hby own_d1_27) ?_
    show Steps p.tables e below (T6.setTop (mkF m 28 #[.val (.int (1 : Int32)), .val (.int (4096 : Int32))] [(.int (2 : Int32)), (.int (2 : Int32)), (.ref b2), (.ref b2)])) _
    refine XS.goto X6.here hx rfl (pc0 := 28) (pc' := 32) rfl (hb hby own_d1_28) (by decide) (by decide) ?_
    show Steps p.tables e below (T6.setTop (mkF m 32 #[.val (.int (1 : Int32)), .val (.int (4096 : Int32))] [(.int (2 : Int32)), (.int (2 : Int32)), (.ref b2), (.ref b2)])) _
    refine XS.i2b X6.here hx rfl (hb hby own_d1_32) rfl ?_
    show Steps p.tables e below (T6.setTop (mkF m 33 #[.val (.int (1 : Int32)), .val (.int (4096 : Int32))] [(.int (2 : Int32)), (.int (2 : Int32)), (.ref b2), (.ref b2)])) _
    refine st8 _ ?_
    show Steps p.tables e below (T8.setTop (mkF m 34 #[.val (.int (1 : Int32)), .val (.int (4096 : Int32))] [(.ref b2)])) _
    jvm_step X8.here [X8.here.top, hx, (hb hby own_d1_34), X8.method', Bd.returns, Value.isRef, FieldType.isReference]
    first | (intro acts; rw [hr _ acts rfl rfl rfl]) | rw [hr _ _ rfl rfl rfl]
    exact Steps.refl _
  · show Q1_1 Z  h0 n0 _ T8.heap _
    rw [e8]
    exact ⟨b2, k2, rfl, N8, K8, sz_b2, V8⟩
theorem own_d1_31 : decode prog_25_method_3_code 31 = .ok (.iconst 1, 1) := by decide +kernel
theorem own_ef_rm1_0 (m : MethodId)  : entryFrame m #[(.int (0 : Int32))] 2 = mkF m 0 #[.val (.int (0 : Int32)), .unset] [] := by first | (simp [entryFrame, mkF, argsToLocals, Value.category]; done) | rfl
def Q1_0 (Z : State)  (h0 : Heap) (n0 : Nat) (v : Option Value) (h : Heap) (L : List Loc) : Prop := ∃ b : Addr, ∃ k : ClassId, v = some (.ref b) ∧ Fr n0 L ∧ Keep h0 h [] ∧ h0.size ≤ b ∧ Arv Z h b k .byte (3 : Int32) [(.int (16 : Int32)), (.int (0 : Int32)), (.int (1 : Int32))] (.int (0 : Int32))
set_option maxRecDepth 65536 in
set_option maxHeartbeats 40000000 in
theorem rm1_0 (l : Launch) (Z : State) (a0 : Array Value) (hw : ∀ d ∈ tables_1, d.before a0 Z = true) (ws : List Jvm.Cond)  (h0 : Heap) (n0 : Nat) (Z0 : n0 ≤ h0.size) :
    MetFree l (⟨"com/example/postbag/postbag/protocol/ContentHeader", "deliveryModeProperties", "(Z)[B"⟩ : MethodName) (head1 (Jvm.Cond.code (⟨"com/example/postbag/postbag/protocol/ContentHeader", "deliveryModeProperties", "(Z)[B"⟩ : MethodName) prog_25_method_3_code 2 (some (.array .byte)) :: ws) ({ frames := 1, cells := 1, slots := 3, locals := 12 } : Room)) (fun a U => a = #[(.int (0 : Int32))] ∧ Z.Warmed39 U.vm ∧ U.heap = h0) (fun _ _ _ _ _ => True) (fun _ U o U' => ∃ v L, o = .returned v ∧ Q1_0 Z  h0 n0 v U'.heap L ∧ FrameEnd U o U' L ({ frames := 1, cells := 1, slots := 3, locals := 12 } : Room).cells ({ frames := 1, cells := 1, slots := 3, locals := 12 } : Room).slots) := by
  refine MetFree.of_bodySF (plainFor_of_name own_pn0) hisR ?_
  intro p e s m args below meth c s₁ Bd hml0 hP hK
  obtain ⟨rfl, hZ, hh⟩ := hP
  have hx := Bd.exec
  have hby := Bd.bytes
  have hml : c.maxLocals = 2 := hml0
  have hown : s.vm.findClass "com/example/postbag/postbag/protocol/ContentHeader" = some m.cls := findClass_of_methodNamed Bd.named
  have hnm := (name_of_methodNamed Bd.named Bd.method).1
  have X0 : Stand p l e ({ frames := 1, cells := 1, slots := 3, locals := 12 } : Room) s m #[(.int (0 : Int32))] below meth c s₁ [] 0 0 := Stand.of_body Bd
  have e0 : s₁.heap = h0 := by rw [← hh, Bd.state]; rfl
  have N0 := Fr.nil n0
  have K0 : Keep h0 h0 [] := Keep.refl h0 _
  have pre0 : ∀ t, Steps p.tables e below (s₁.setTop (mkF m 0 #[.val (.int (0 : Int32)), .unset] [])) t → Steps p.tables e below (s₁.setTop (entryFrame m #[(.int (0 : Int32))] 2)) t := fun t k => castTop (own_ef_rm1_0 m ) k
  obtain ⟨_, _, ⟨T9, L9, k9, n9⟩, -, X9, ⟨Lc9, hQ9, l9, y9, z9⟩, st9⟩ := Jvm.LawKit.callS X0 hx (y := (⟨"com/example/postbag/postbag/protocol/ContentHeader", "flag", "(I)I"⟩ : MethodName)) hown (mvT hZ (hw _ (List.mem_of_getElem? (i := 4) rfl))) (mvT hZ (hw _ (List.mem_of_getElem? (i := 5) rfl))) (mvT hZ (hw _ (List.mem_of_getElem? (i := 2) rfl))) (mvT hZ (hw _ (List.mem_of_getElem? (i := 6) rfl))) (by decide) (backOf (W := 0) (rm2 l Z a0 hw []  h0 n0 (Nat.le_trans Z0 K0.1) ) hZ (hw _ (List.mem_of_getElem? (i := 6) rfl)) (hw _ (List.mem_of_getElem? (i := 2) rfl)) (by decide) (by decide)) (g := (mkF m 1 #[.val (.int (0 : Int32)), .unset] [(.int (3 : Int32))])) rfl (by rw [hml]; rfl) (argsL := [(.int (3 : Int32))]) (rest := []) (lenOf own_pd0 rfl) rfl (by show 2 * 0 + _ ≤ _; exact Nat.le_of_eq rfl) (hb hby own_d1_1) (fun _ _ => ⟨rfl, e0, (by decide : 0 + 0 ≤ _), (by decide : 0 + 0 ≤ _)⟩)
  dsimp only [Pt.U, Pt.locs, Pt.cells, Pt.slots] at X9 l9 y9 z9 st9 hQ9
  subst l9 y9 z9
  obtain ⟨rfl, N9q, e9⟩ := hQ9
  have N9 := Fr.app N0 N9q
  obtain ⟨T10, h10, k10, X10, e10, E10, A10, st10⟩ := newP X9 hx hZ (hw _ (List.mem_of_getElem? (i := 7) rfl)) e9 (g := (mkF m 6 #[.val (.int (0 : Int32)), .val (.int (4096 : Int32))] [(.int (3 : Int32))])) rfl (hb hby own_d1_6) rfl (by decide) (cap := 3) (by decide) (by decide) (by decide) (by decide)
  obtain ⟨b10, g10⟩ : ∃ z, z = h0.size := ⟨_, rfl⟩
  rw [← g10] at A10 st10
  have gg_b10 : n0 ≤ b10 := Nat.le_trans (Nat.le_trans Z0 K0.1) (Nat.le_of_eq g10.symm)
  have sz_b10 : h0.size ≤ b10 := Nat.le_trans K0.1 (Nat.le_of_eq g10.symm)
  have K10 := K0.ext E10
  have V10 : Arv Z h10 b10 k10 .byte (3 : Int32) [(.int (0 : Int32)), (.int (0 : Int32)), (.int (0 : Int32))] (.int (0 : Int32)) := (Arv.new A10 (by decide)).pad (pad_rep [] (.int (0 : Int32)) 3)
  obtain ⟨cl11, Ar11, q11, S11, M11, H11, G11⟩ := id V10
  have hin11 : ¬ ((0 : Int32) < 0 ∨ cl11.slots.size ≤ ((0 : Int32)).toNatClampNeg) := inb_of S11 ⟨by decide, by decide⟩
  obtain ⟨T12, h12, X12, e12, W12, st12⟩ := stB X10 hx hZ e10 Ar11 (j := (0 : Int32)) hin11 (g := (mkF m 15 #[.val (.int (0 : Int32)), .val (.int (4096 : Int32))] [(.int (16 : Int32)), (.int (0 : Int32)), (.ref b10), (.ref b10)])) rfl rfl (hb hby own_d1_15)
  have V12 : Arv Z h12 b10 k10 .byte (3 : Int32) [(.int (16 : Int32)), (.int (0 : Int32)), (.int (0 : Int32))] (.int (0 : Int32)) := Arv.set Ar11 q11 S11 M11 H11 G11 (fits_nar_byte _) W12 0 rfl (Nat.le_of_ble_eq_true rfl)
  have K12 := K10.wr W12 (Or.inr sz_b10)
  have N12 := Fr.snoc X12 N9 gg_b10
  obtain ⟨cl13, Ar13, q13, S13, M13, H13, G13⟩ := id V12
  have hin13 : ¬ ((1 : Int32) < 0 ∨ cl13.slots.size ≤ ((1 : Int32)).toNatClampNeg) := inb_of S13 ⟨by decide, by decide⟩
  obtain ⟨T14, h14, X14, e14, W14, st14⟩ := stB X12 hx hZ e12 Ar13 (j := (1 : Int32)) hin13 (g := (mkF m 20 #[.val (.int (0 : Int32)), .val (.int (4096 : Int32))] [(.int (0 : Int32)), (.int (1 : Int32)), (.ref b10), (.ref b10)])) rfl rfl (hb hby own_d1_20)
  have V14 : Arv Z h14 b10 k10 .byte (3 : Int32) [(.int (16 : Int32)), (.int (0 : Int32)), (.int (0 : Int32))] (.int (0 : Int32)) := Arv.set Ar13 q13 S13 M13 H13 G13 (fits_nar_byte _) W14 1 rfl (Nat.le_of_ble_eq_true rfl)
  have K14 := K12.wr W14 (Or.inr sz_b10)
  have N14 := Fr.snoc X14 N12 gg_b10
  obtain ⟨cl15, Ar15, q15, S15, M15, H15, G15⟩ := id V14
  have hin15 : ¬ ((2 : Int32) < 0 ∨ cl15.slots.size ≤ ((2 : Int32)).toNatClampNeg) := inb_of S15 ⟨by decide, by decide⟩
  obtain ⟨T16, h16, X16, e16, W16, st16⟩ := stB X14 hx hZ e14 Ar15 (j := (2 : Int32)) hin15 (g := (mkF m 33 #[.val (.int (0 : Int32)), .val (.int (4096 : Int32))] [(.int (1 : Int32)), (.int (2 : Int32)), (.ref b10), (.ref b10)])) rfl rfl (hb hby own_d1_33)
  have V16 : Arv Z h16 b10 k10 .byte (3 : Int32) [(.int (16 : Int32)), (.int (0 : Int32)), (.int (1 : Int32))] (.int (0 : Int32)) := Arv.set Ar15 q15 S15 M15 H15 G15 (fits_nar_byte _) W16 2 rfl (Nat.le_of_ble_eq_true rfl)
  have K16 := K14.wr W16 (Or.inr sz_b10)
  have N16 := Fr.snoc X16 N14 gg_b10
  obtain ⟨fs, hr, hrun, hended, hW, hsame⟩ := X16.leave (v := some (.ref b10)) (fun h => by rw [Bd.returns] at h; cases h)
  refine ⟨_, _, pre0 _ ?_, hrun, hended, _, _, rfl, ?_, ⟨_, rfl⟩, hW, hsame.mono (by decide) (by decide)⟩
  · show Steps p.tables e below (s₁.setTop (mkF m 0 #[.val (.int (0 : Int32)), .unset] [])) _
    refine XS.iconst X0.here hx rfl (hb hby own_d1_0) ?_
    show Steps p.tables e below (s₁.setTop (mkF m 1 #[.val (.int (0 : Int32)), .unset] [(.int (3 : Int32))])) _
    refine st9 _ ?_
    show Steps p.tables e below (T9.setTop (mkF m 4 #[.val (.int (0 : Int32)), .unset] [(.int (4096 : Int32))])) _
    refine XS.istoreN X9.here hx rfl (hb hby own_d1_4) rfl (l' := #[.val (.int (0 : Int32)), .val (.int (4096 : Int32))]) rfl ?_
    show Steps p.tables e below (T9.setTop (mkF m 5 #[.val (.int (0 : Int32)), .val (.int (4096 : Int32))] [])) _
    refine XS.iconst X9.here hx rfl (hb hby own_d1_5) ?_
    show Steps p.tables e below (T9.setTop (mkF m 6 #[.val (.int (0 : Int32)), .val (.int (4096 : Int32))] [(.int (3 : Int32))])) _
    refine st10 _ ?_
    show Steps p.tables e below (T10.setTop (mkF m 8 #[.val (.int (0 : Int32)), .val (.int (4096 : Int32))] [(.ref b10)])) _
    refine XS.dup X10.here hx rfl (hb hby own_d1_8) rfl rfl ?_
    show Steps p.tables e below (T10.setTop (mkF m 9 #[.val (.int (0 : Int32)), .val (.int (4096 : Int32))] [(.ref b10), (.ref b10)])) _
    refine XS.iconst X10.here hx rfl (hb hby own_d1_9) ?_
    show Steps p.tables e below (T10.setTop (mkF m 10 #[.val (.int (0 : Int32)), .val (.int (4096 : Int32))] [(.int (0 : Int32)), (.ref b10), (.ref b10)])) _
    refine XS.iloadN X10.here hx rfl (hb hby own_d1_10) rfl ?_
    show Steps p.tables e below (T10.setTop (mkF m 11 #[.val (.int (0 : Int32)), .val (.int (4096 : Int32))] [(.int (4096 : Int32)), (.int (0 : Int32)), (.ref b10), (.ref b10)])) _
    refine XS.bipush X10.here hx rfl (hb hby own_d1_11) ?_
    show Steps p.tables e below (T10.setTop (mkF m 13 #[.val (.int (0 : Int32)), .val (.int (4096 : Int32))] [(.int (8 : Int32)), (.int (4096 : Int32)), (.int (0 : Int32)), (.ref b10), (.ref b10)])) _
    refine XS.iushr X10.here hx rfl (hb hby own_d1_13) rfl ?_
    show Steps p.tables e below (T10.setTop (mkF m 14 #[.val (.int (0 : Int32)), .val (.int (4096 : Int32))] [(.int (16 : Int32)), (.int (0 : Int32)), (.ref b10), (.ref b10)])) _
    refine XS.i2b X10.here hx rfl (hb hby own_d1_14) rfl ?_
    show Steps p.tables e below (T10.setTop (mkF m 15 #[.val (.int (0 : Int32)), .val (.int (4096 : Int32))] [(.int (16 : Int32)), (.int (0 : Int32)), (.ref b10), (.ref b10)])) _
    refine st12 _ ?_
    show Steps p.tables e below (T12.setTop (mkF m 16 #[.val (.int (0 : Int32)), .val (.int (4096 : Int32))] [(.ref b10)])) _
    refine XS.dup X12.here hx rfl (hb hby own_d1_16) rfl rfl ?_
    show Steps p.tables e below (T12.setTop (mkF m 17 #[.val (.int (0 : Int32)), .val (.int (4096 : Int32))] [(.ref b10), (.ref b10)])) _
    refine XS.iconst X12.here hx rfl (hb hby own_d1_17) ?_
    show Steps p.tables e below (T12.setTop (mkF m 18 #[.val (.int (0 : Int32)), .val (.int (4096 : Int32))] [(.int (1 : Int32)), (.ref b10), (.ref b10)])) _
    refine XS.iloadN X12.here hx rfl (hb hby own_d1_18) rfl ?_
    show Steps p.tables e below (T12.setTop (mkF m 19 #[.val (.int (0 : Int32)), .val (.int (4096 : Int32))] [(.int (4096 : Int32)), (.int (1 : Int32)), (.ref b10), (.ref b10)])) _
    refine XS.i2b X12.here hx rfl (hb hby own_d1_19) rfl ?_
    show Steps p.tables e below (T12.setTop (mkF m 20 #[.val (.int (0 : Int32)), .val (.int (4096 : Int32))] [(.int (0 : Int32)), (.int (1 : Int32)), (.ref b10), (.ref b10)])) _
    refine st14 _ ?_
    show Steps p.tables e below (T14.setTop (mkF m 21 #[.val (.int (0 : Int32)), .val (.int (4096 : Int32))] [(.ref b10)])) _
    refine XS.dup X14.here hx rfl (hb hby own_d1_21) rfl rfl ?_
    show Steps p.tables e below (T14.setTop (mkF m 22 #[.val (.int (0 : Int32)), .val (.int (4096 : Int32))] [(.ref b10), (.ref b10)])) _
    refine XS.iconst X14.here hx rfl (hb hby own_d1_22) ?_
    show Steps p.tables e below (T14.setTop (mkF m 23 #[.val (.int (0 : Int32)), .val (.int (4096 : Int32))] [(.int (2 : Int32)), (.ref b10), (.ref b10)])) _
    refine XS.iloadN X14.here hx rfl (hb hby own_d1_23) rfl ?_
    show Steps p.tables e below (T14.setTop (mkF m 24 #[.val (.int (0 : Int32)), .val (.int (4096 : Int32))] [(.int (0 : Int32)), (.int (2 : Int32)), (.ref b10), (.ref b10)])) _
    refine XS.ifYes X14.here hx rfl (pc0 := 24) (pc' := 31) rfl (hb hby own_d1_24) rfl ((if0 _ _).trans (teq (by decide : ((0 : Int32) = (0 : Int32)))).1) (by decide) (by decide) ?_
    show Steps p.tables e below (T14.setTop (mkF m 31 #[.val (.int (0 : Int32)), .val (.int (4096 : Int32))] [(.int (2 : Int32)), (.ref b10), (.ref b10)])) _
    refine XS.iconst X14.here hx rfl (hb hby own_d1_31) ?_
    show Steps p.tables e below (T14.setTop (mkF m 32 #[.val (.int (0 : Int32)), .val (.int (4096 : Int32))] [(.int (1 : Int32)), (.int (2 : Int32)), (.ref b10), (.ref b10)])) _
    refine XS.i2b X14.here hx rfl (hb hby own_d1_32) rfl ?_
    show Steps p.tables e below (T14.setTop (mkF m 33 #[.val (.int (0 : Int32)), .val (.int (4096 : Int32))] [(.int (1 : Int32)), (.int (2 : Int32)), (.ref b10), (.ref b10)])) _
    refine st16 _ ?_
    show Steps p.tables e below (T16.setTop (mkF m 34 #[.val (.int (0 : Int32)), .val (.int (4096 : Int32))] [(.ref b10)])) _
    jvm_step X16.here [X16.here.top, hx, (hb hby own_d1_34), X16.method', Bd.returns, Value.isRef, FieldType.isReference]
    first | (intro acts; rw [hr _ acts rfl rfl rfl]) | rw [hr _ _ rfl rfl rfl]
    exact Steps.refl _
  · show Q1_0 Z  h0 n0 _ T16.heap _
    rw [e16]
    exact ⟨b10, k10, rfl, N16, K16, sz_b10, V16⟩
theorem own_d3_0 : decode method_3_code 0 = .ok (.aload_n 0, 1) := by decide +kernel
theorem own_d3_1 : decode method_3_code 1 = .ok (.ifnull 9, 3) := by decide +kernel
theorem own_d3_4 : decode method_3_code 4 = .ok (.aload_n 0, 1) := by decide +kernel
theorem own_d3_5 : decode method_3_code 5 = .ok (.arraylength, 1) := by decide +kernel
theorem own_d3_6 : decode method_3_code 6 = .ok (.iconst 3, 1) := by decide +kernel
theorem own_d3_7 : decode method_3_code 7 = .ok (.if_icmp .eq 5, 3) := by decide +kernel
theorem own_d3_12 : decode method_3_code 12 = .ok (.aload_n 0, 1) := by decide +kernel
theorem own_d3_13 : decode method_3_code 13 = .ok (.iconst 0, 1) := by decide +kernel
theorem own_d3_14 : decode method_3_code 14 = .ok (.baload, 1) := by decide +kernel
theorem own_d3_15 : decode method_3_code 15 = .ok (.sipush 255, 3) := by decide +kernel
theorem own_d3_18 : decode method_3_code 18 = .ok (.iand, 1) := by decide +kernel
theorem own_d3_19 : decode method_3_code 19 = .ok (.bipush 8, 2) := by decide +kernel
theorem own_d3_21 : decode method_3_code 21 = .ok (.ishl, 1) := by decide +kernel
theorem own_d3_22 : decode method_3_code 22 = .ok (.aload_n 0, 1) := by decide +kernel
theorem own_d3_23 : decode method_3_code 23 = .ok (.iconst 1, 1) := by decide +kernel
theorem own_d3_24 : decode method_3_code 24 = .ok (.baload, 1) := by decide +kernel
theorem own_d3_25 : decode method_3_code 25 = .ok (.sipush 255, 3) := by decide +kernel
theorem own_d3_28 : decode method_3_code 28 = .ok (.iand, 1) := by decide +kernel
theorem own_d3_29 : decode method_3_code 29 = .ok (.ior, 1) := by decide +kernel
theorem own_d3_30 : decode method_3_code 30 = .ok (.istore_n 2, 1) := by decide +kernel
theorem own_d3_31 : decode method_3_code 31 = .ok (.iload_n 2, 1) := by decide +kernel
theorem own_d3_32 : decode method_3_code 32 = .ok (.sipush 4096, 3) := by decide +kernel
theorem own_d3_35 : decode method_3_code 35 = .ok (.if_icmp .ne 18, 3) := by decide +kernel
theorem own_d3_38 : decode method_3_code 38 = .ok (.aload_n 0, 1) := by decide +kernel
theorem own_d3_39 : decode method_3_code 39 = .ok (.iconst 2, 1) := by decide +kernel
theorem own_d3_40 : decode method_3_code 40 = .ok (.baload, 1) := by decide +kernel
theorem own_d3_41 : decode method_3_code 41 = .ok (.sipush 255, 3) := by decide +kernel
theorem own_d3_44 : decode method_3_code 44 = .ok (.iand, 1) := by decide +kernel
theorem own_d3_45 : decode method_3_code 45 = .ok (.iload_n 1, 1) := by decide +kernel
theorem own_d3_46 : decode method_3_code 46 = .ok (.if_icmp .ne 7, 3) := by decide +kernel
theorem own_d3_49 : decode method_3_code 49 = .ok (.iconst 1, 1) := by decide +kernel
theorem own_d3_50 : decode method_3_code 50 = .ok (.goto 4, 3) := by decide +kernel
theorem own_d3_54 : decode method_3_code 54 = .ok (.ireturn, 1) := by decide +kernel
theorem own_d3_53 : decode method_3_code 53 = .ok (.iconst 0, 1) := by decide +kernel
def own_f_rm3 (p2 : Int32) (v0 : Int32) (v1 : Int32) (v2 : Int32) : Int32 := if (((v0 &&& (255 : Int32)) <<< ((8 : Int32) &&& 31)) ||| (v1 &&& (255 : Int32))) = (4096 : Int32) then if (v2 &&& (255 : Int32)) = p2 then (1 : Int32) else (0 : Int32) else (0 : Int32)
theorem own_pn1 : plainName "com/example/postbag/postbag/protocol/ContentHeaderDeliveryModePropertiesPinLaw" = true := by first | (simp [plainName, overriddenIn]; done) | decide +kernel
theorem own_ef_rm3 (m : MethodId) (a1 : Addr) (p2 : Int32) : entryFrame m #[(.ref a1), (.int p2)] 3 = mkF m 0 #[.val (.ref a1), .val (.int p2), .unset] [] := by first | (simp [entryFrame, mkF, argsToLocals, Value.category]; done) | rfl
def Q3 (Z : State) (a1 : Addr) (p2 : Int32) (k : ClassId) (v0 : Int32) (v1 : Int32) (v2 : Int32) (h0 : Heap) (n0 : Nat) (v : Option Value) (h : Heap) (L : List Loc) : Prop := v = some (.int (own_f_rm3 p2 v0 v1 v2)) ∧ Fr n0 L ∧ h = h0
set_option maxRecDepth 65536 in
set_option maxHeartbeats 40000000 in
theorem rm3 (l : Launch) (Z : State) (a0 : Array Value) (hw : ∀ d ∈ tables_1, d.before a0 Z = true) (ws : List Jvm.Cond) (a1 : Addr) (p2 : Int32) (k : ClassId) (v0 : Int32) (v1 : Int32) (v2 : Int32) (h0 : Heap) (n0 : Nat) (Z0 : n0 ≤ h0.size) (V_a1 : Arv Z h0 a1 k .byte (3 : Int32) [(.int v0), (.int v1), (.int v2)] (.int (0 : Int32))) :
    MetFree l (⟨"com/example/postbag/postbag/protocol/ContentHeaderDeliveryModePropertiesPinLaw", "exact", "([BI)Z"⟩ : MethodName) (head1 (Jvm.Cond.code (⟨"com/example/postbag/postbag/protocol/ContentHeaderDeliveryModePropertiesPinLaw", "exact", "([BI)Z"⟩ : MethodName) method_3_code 3 (some .boolean) :: ws) ({ frames := 0, cells := 0, slots := 0, locals := 0 } : Room)) (fun a U => a = #[(.ref a1), (.int p2)] ∧ Z.Warmed39 U.vm ∧ U.heap = h0) (fun _ _ _ _ _ => True) (fun _ U o U' => ∃ v L, o = .returned v ∧ Q3 Z a1 p2 k v0 v1 v2 h0 n0 v U'.heap L ∧ FrameEnd U o U' L ({ frames := 0, cells := 0, slots := 0, locals := 0 } : Room).cells ({ frames := 0, cells := 0, slots := 0, locals := 0 } : Room).slots) := by
  refine MetFree.of_bodySF (plainFor_of_name own_pn1) hisR ?_
  intro p e s m args below meth c s₁ Bd hml0 hP hK
  obtain ⟨rfl, hZ, hh⟩ := hP
  have hx := Bd.exec
  have hby := Bd.bytes
  have hml : c.maxLocals = 3 := hml0
  have hown : s.vm.findClass "com/example/postbag/postbag/protocol/ContentHeaderDeliveryModePropertiesPinLaw" = some m.cls := findClass_of_methodNamed Bd.named
  have hnm := (name_of_methodNamed Bd.named Bd.method).1
  have X0 : Stand p l e ({ frames := 0, cells := 0, slots := 0, locals := 0 } : Room) s m #[(.ref a1), (.int p2)] below meth c s₁ [] 0 0 := Stand.of_body Bd
  have e0 : s₁.heap = h0 := by rw [← hh, Bd.state]; rfl
  have N0 := Fr.nil n0
  have K0 : Keep h0 h0 [] := Keep.refl h0 _
  have pre0 : ∀ t, Steps p.tables e below (s₁.setTop (mkF m 0 #[.val (.ref a1), .val (.int p2), .unset] [])) t → Steps p.tables e below (s₁.setTop (entryFrame m #[(.ref a1), (.int p2)] 3)) t := fun t k => castTop (own_ef_rm3 m a1 p2) k
  obtain ⟨cl23, Ar23, q23, S23, M23, H23, G23⟩ := id V_a1
  obtain ⟨cl24, Ar24, q24, S24, M24, H24, G24⟩ := id V_a1
  have hin24 : ¬ ((0 : Int32) < 0 ∨ cl24.slots.size ≤ ((0 : Int32)).toNatClampNeg) := inb_of S24 ⟨by decide, by decide⟩
  have hat24 : cl24.slots[((0 : Int32)).toNatClampNeg]? = some (.int v0) := Has.at H24 hin24 rfl
  obtain ⟨cl25, Ar25, q25, S25, M25, H25, G25⟩ := id V_a1
  have hin25 : ¬ ((1 : Int32) < 0 ∨ cl25.slots.size ≤ ((1 : Int32)).toNatClampNeg) := inb_of S25 ⟨by decide, by decide⟩
  have hat25 : cl25.slots[((1 : Int32)).toNatClampNeg]? = some (.int v1) := Has.at H25 hin25 rfl
  have pre26 : ∀ t, Steps p.tables e below (s₁.setTop (mkF m 35 #[.val (.ref a1), .val (.int p2), .val (.int (((v0 &&& (255 : Int32)) <<< ((8 : Int32) &&& 31)) ||| (v1 &&& (255 : Int32))))] [(.int (4096 : Int32)), (.int (((v0 &&& (255 : Int32)) <<< ((8 : Int32) &&& 31)) ||| (v1 &&& (255 : Int32))))])) t → Steps p.tables e below (s₁.setTop (entryFrame m #[(.ref a1), (.int p2)] 3)) t := fun t k => by
    refine pre0 _ ?_
    show Steps p.tables e below (s₁.setTop (mkF m 0 #[.val (.ref a1), .val (.int p2), .unset] [])) _
    refine XS.aloadN X0.here hx rfl (hb hby own_d3_0) rfl rfl ?_
    show Steps p.tables e below (s₁.setTop (mkF m 1 #[.val (.ref a1), .val (.int p2), .unset] [(.ref a1)])) _
    refine XS.ifnullNo X0.here hx rfl (hb hby own_d3_1) rfl ?_
    show Steps p.tables e below (s₁.setTop (mkF m 4 #[.val (.ref a1), .val (.int p2), .unset] [])) _
    refine XS.aloadN X0.here hx rfl (hb hby own_d3_4) rfl rfl ?_
    show Steps p.tables e below (s₁.setTop (mkF m 5 #[.val (.ref a1), .val (.int p2), .unset] [(.ref a1)])) _
    refine X0.arraylength hx (by rw [e0]; exact Ar23.1) (State.isArrayOf_alike hZ.alike Ar23.2.1) (g := (mkF m 5 #[.val (.ref a1), .val (.int p2), .unset] [(.ref a1)])) rfl rfl (hb hby own_d3_5) _ ?_
    rw [len_of S23 M23]
    show Steps p.tables e below (s₁.setTop (mkF m 6 #[.val (.ref a1), .val (.int p2), .unset] [(.int (3 : Int32))])) _
    refine XS.iconst X0.here hx rfl (hb hby own_d3_6) ?_
    show Steps p.tables e below (s₁.setTop (mkF m 7 #[.val (.ref a1), .val (.int p2), .unset] [(.int (3 : Int32)), (.int (3 : Int32))])) _
    refine XS.icmpYes X0.here hx rfl (pc0 := 7) (pc' := 12) rfl (hb hby own_d3_7) rfl (teq (by decide : ((3 : Int32) = (3 : Int32)))).1 (by decide) (by decide) ?_
    show Steps p.tables e below (s₁.setTop (mkF m 12 #[.val (.ref a1), .val (.int p2), .unset] [])) _
    refine XS.aloadN X0.here hx rfl (hb hby own_d3_12) rfl rfl ?_
    show Steps p.tables e below (s₁.setTop (mkF m 13 #[.val (.ref a1), .val (.int p2), .unset] [(.ref a1)])) _
    refine XS.iconst X0.here hx rfl (hb hby own_d3_13) ?_
    show Steps p.tables e below (s₁.setTop (mkF m 14 #[.val (.ref a1), .val (.int p2), .unset] [(.int (0 : Int32)), (.ref a1)])) _
    refine X0.baloadBytes hx (j := (0 : Int32)) (v := (.int v0)) (by rw [e0]; exact Ar24.1) (State.isArrayOf_alike hZ.alike Ar24.2.1) Ar24.2.2 hin24 hat24 (g := (mkF m 14 #[.val (.ref a1), .val (.int p2), .unset] [(.int (0 : Int32)), (.ref a1)])) rfl rfl (hb hby own_d3_14) _ ?_
    show Steps p.tables e below (s₁.setTop (mkF m 15 #[.val (.ref a1), .val (.int p2), .unset] [(.int v0)])) _
    refine XS.sipush X0.here hx rfl (hb hby own_d3_15) ?_
    show Steps p.tables e below (s₁.setTop (mkF m 18 #[.val (.ref a1), .val (.int p2), .unset] [(.int (255 : Int32)), (.int v0)])) _
    refine XS.iand X0.here hx rfl (hb hby own_d3_18) rfl ?_
    show Steps p.tables e below (s₁.setTop (mkF m 19 #[.val (.ref a1), .val (.int p2), .unset] [(.int (v0 &&& (255 : Int32)))])) _
    refine XS.bipush X0.here hx rfl (hb hby own_d3_19) ?_
    show Steps p.tables e below (s₁.setTop (mkF m 21 #[.val (.ref a1), .val (.int p2), .unset] [(.int (8 : Int32)), (.int (v0 &&& (255 : Int32)))])) _
    refine XS.ishl X0.here hx rfl (hb hby own_d3_21) rfl ?_
    show Steps p.tables e below (s₁.setTop (mkF m 22 #[.val (.ref a1), .val (.int p2), .unset] [(.int ((v0 &&& (255 : Int32)) <<< ((8 : Int32) &&& 31)))])) _
    refine XS.aloadN X0.here hx rfl (hb hby own_d3_22) rfl rfl ?_
    show Steps p.tables e below (s₁.setTop (mkF m 23 #[.val (.ref a1), .val (.int p2), .unset] [(.ref a1), (.int ((v0 &&& (255 : Int32)) <<< ((8 : Int32) &&& 31)))])) _
    refine XS.iconst X0.here hx rfl (hb hby own_d3_23) ?_
    show Steps p.tables e below (s₁.setTop (mkF m 24 #[.val (.ref a1), .val (.int p2), .unset] [(.int (1 : Int32)), (.ref a1), (.int ((v0 &&& (255 : Int32)) <<< ((8 : Int32) &&& 31)))])) _
    refine X0.baloadBytes hx (j := (1 : Int32)) (v := (.int v1)) (by rw [e0]; exact Ar25.1) (State.isArrayOf_alike hZ.alike Ar25.2.1) Ar25.2.2 hin25 hat25 (g := (mkF m 24 #[.val (.ref a1), .val (.int p2), .unset] [(.int (1 : Int32)), (.ref a1), (.int ((v0 &&& (255 : Int32)) <<< ((8 : Int32) &&& 31)))])) rfl rfl (hb hby own_d3_24) _ ?_
    show Steps p.tables e below (s₁.setTop (mkF m 25 #[.val (.ref a1), .val (.int p2), .unset] [(.int v1), (.int ((v0 &&& (255 : Int32)) <<< ((8 : Int32) &&& 31)))])) _
    refine XS.sipush X0.here hx rfl (hb hby own_d3_25) ?_
    show Steps p.tables e below (s₁.setTop (mkF m 28 #[.val (.ref a1), .val (.int p2), .unset] [(.int (255 : Int32)), (.int v1), (.int ((v0 &&& (255 : Int32)) <<< ((8 : Int32) &&& 31)))])) _
    refine XS.iand X0.here hx rfl (hb hby own_d3_28) rfl ?_
    show Steps p.tables e below (s₁.setTop (mkF m 29 #[.val (.ref a1), .val (.int p2), .unset] [(.int (v1 &&& (255 : Int32))), (.int ((v0 &&& (255 : Int32)) <<< ((8 : Int32) &&& 31)))])) _
    refine XS.ior X0.here hx rfl (hb hby own_d3_29) rfl ?_
    show Steps p.tables e below (s₁.setTop (mkF m 30 #[.val (.ref a1), .val (.int p2), .unset] [(.int (((v0 &&& (255 : Int32)) <<< ((8 : Int32) &&& 31)) ||| (v1 &&& (255 : Int32))))])) _
    refine XS.istoreN X0.here hx rfl (hb hby own_d3_30) rfl (l' := #[.val (.ref a1), .val (.int p2), .val (.int (((v0 &&& (255 : Int32)) <<< ((8 : Int32) &&& 31)) ||| (v1 &&& (255 : Int32))))]) rfl ?_
    show Steps p.tables e below (s₁.setTop (mkF m 31 #[.val (.ref a1), .val (.int p2), .val (.int (((v0 &&& (255 : Int32)) <<< ((8 : Int32) &&& 31)) ||| (v1 &&& (255 : Int32))))] [])) _
    refine XS.iloadN X0.here hx rfl (hb hby own_d3_31) rfl ?_
    show Steps p.tables e below (s₁.setTop (mkF m 32 #[.val (.ref a1), .val (.int p2), .val (.int (((v0 &&& (255 : Int32)) <<< ((8 : Int32) &&& 31)) ||| (v1 &&& (255 : Int32))))] [(.int (((v0 &&& (255 : Int32)) <<< ((8 : Int32) &&& 31)) ||| (v1 &&& (255 : Int32))))])) _
    refine XS.sipush X0.here hx rfl (hb hby own_d3_32) ?_
    exact k
  by_cases hc35 : (((v0 &&& (255 : Int32)) <<< ((8 : Int32) &&& 31)) ||| (v1 &&& (255 : Int32))) = (4096 : Int32)
  · obtain ⟨cl27, Ar27, q27, S27, M27, H27, G27⟩ := id V_a1
    have hin27 : ¬ ((2 : Int32) < 0 ∨ cl27.slots.size ≤ ((2 : Int32)).toNatClampNeg) := inb_of S27 ⟨by decide, by decide⟩
    have hat27 : cl27.slots[((2 : Int32)).toNatClampNeg]? = some (.int v2) := Has.at H27 hin27 rfl
    have pre28 : ∀ t, Steps p.tables e below (s₁.setTop (mkF m 46 #[.val (.ref a1), .val (.int p2), .val (.int (((v0 &&& (255 : Int32)) <<< ((8 : Int32) &&& 31)) ||| (v1 &&& (255 : Int32))))] [(.int p2), (.int (v2 &&& (255 : Int32)))])) t → Steps p.tables e below (s₁.setTop (entryFrame m #[(.ref a1), (.int p2)] 3)) t := fun t k => by
      refine pre26 _ ?_
      show Steps p.tables e below (s₁.setTop (mkF m 35 #[.val (.ref a1), .val (.int p2), .val (.int (((v0 &&& (255 : Int32)) <<< ((8 : Int32) &&& 31)) ||| (v1 &&& (255 : Int32))))] [(.int (4096 : Int32)), (.int (((v0 &&& (255 : Int32)) <<< ((8 : Int32) &&& 31)) ||| (v1 &&& (255 : Int32))))])) _
      refine XS.icmpNo X0.here hx rfl (hb hby own_d3_35) rfl (teq hc35).2 ?_
      show Steps p.tables e below (s₁.setTop (mkF m 38 #[.val (.ref a1), .val (.int p2), .val (.int (((v0 &&& (255 : Int32)) <<< ((8 : Int32) &&& 31)) ||| (v1 &&& (255 : Int32))))] [])) _
      refine XS.aloadN X0.here hx rfl (hb hby own_d3_38) rfl rfl ?_
      show Steps p.tables e below (s₁.setTop (mkF m 39 #[.val (.ref a1), .val (.int p2), .val (.int (((v0 &&& (255 : Int32)) <<< ((8 : Int32) &&& 31)) ||| (v1 &&& (255 : Int32))))] [(.ref a1)])) _
      refine XS.iconst X0.here hx rfl (hb hby own_d3_39) ?_
      show Steps p.tables e below (s₁.setTop (mkF m 40 #[.val (.ref a1), .val (.int p2), .val (.int (((v0 &&& (255 : Int32)) <<< ((8 : Int32) &&& 31)) ||| (v1 &&& (255 : Int32))))] [(.int (2 : Int32)), (.ref a1)])) _
      refine X0.baloadBytes hx (j := (2 : Int32)) (v := (.int v2)) (by rw [e0]; exact Ar27.1) (State.isArrayOf_alike hZ.alike Ar27.2.1) Ar27.2.2 hin27 hat27 (g := (mkF m 40 #[.val (.ref a1), .val (.int p2), .val (.int (((v0 &&& (255 : Int32)) <<< ((8 : Int32) &&& 31)) ||| (v1 &&& (255 : Int32))))] [(.int (2 : Int32)), (.ref a1)])) rfl rfl (hb hby own_d3_40) _ ?_
      show Steps p.tables e below (s₁.setTop (mkF m 41 #[.val (.ref a1), .val (.int p2), .val (.int (((v0 &&& (255 : Int32)) <<< ((8 : Int32) &&& 31)) ||| (v1 &&& (255 : Int32))))] [(.int v2)])) _
      refine XS.sipush X0.here hx rfl (hb hby own_d3_41) ?_
      show Steps p.tables e below (s₁.setTop (mkF m 44 #[.val (.ref a1), .val (.int p2), .val (.int (((v0 &&& (255 : Int32)) <<< ((8 : Int32) &&& 31)) ||| (v1 &&& (255 : Int32))))] [(.int (255 : Int32)), (.int v2)])) _
      refine XS.iand X0.here hx rfl (hb hby own_d3_44) rfl ?_
      show Steps p.tables e below (s₁.setTop (mkF m 45 #[.val (.ref a1), .val (.int p2), .val (.int (((v0 &&& (255 : Int32)) <<< ((8 : Int32) &&& 31)) ||| (v1 &&& (255 : Int32))))] [(.int (v2 &&& (255 : Int32)))])) _
      refine XS.iloadN X0.here hx rfl (hb hby own_d3_45) rfl ?_
      exact k
    by_cases hc46 : (v2 &&& (255 : Int32)) = p2
    · obtain ⟨fs, hr, hrun, hended, hW, hsame⟩ := X0.leave (v := some (.int (1 : Int32))) (fun h => by rw [Bd.returns] at h; cases h)
      refine ⟨_, _, pre28 _ ?_, hrun, hended, _, _, rfl, ?_, ⟨_, rfl⟩, hW, hsame.mono (by decide) (by decide)⟩
      · show Steps p.tables e below (s₁.setTop (mkF m 46 #[.val (.ref a1), .val (.int p2), .val (.int (((v0 &&& (255 : Int32)) <<< ((8 : Int32) &&& 31)) ||| (v1 &&& (255 : Int32))))] [(.int p2), (.int (v2 &&& (255 : Int32)))])) _
        refine XS.icmpNo X0.here hx rfl (hb hby own_d3_46) rfl (teq hc46).2 ?_
        show Steps p.tables e below (s₁.setTop (mkF m 49 #[.val (.ref a1), .val (.int p2), .val (.int (((v0 &&& (255 : Int32)) <<< ((8 : Int32) &&& 31)) ||| (v1 &&& (255 : Int32))))] [])) _
        refine XS.iconst X0.here hx rfl (hb hby own_d3_49) ?_
        show Steps p.tables e below (s₁.setTop (mkF m 50 #[.val (.ref a1), .val (.int p2), .val (.int (((v0 &&& (255 : Int32)) <<< ((8 : Int32) &&& 31)) ||| (v1 &&& (255 : Int32))))] [(.int (1 : Int32))])) _
        refine XS.goto X0.here hx rfl (pc0 := 50) (pc' := 54) rfl (hb hby own_d3_50) (by decide) (by decide) ?_
        show Steps p.tables e below (s₁.setTop (mkF m 54 #[.val (.ref a1), .val (.int p2), .val (.int (((v0 &&& (255 : Int32)) <<< ((8 : Int32) &&& 31)) ||| (v1 &&& (255 : Int32))))] [(.int (1 : Int32))])) _
        exact retN X0 hx (t := .boolean) Bd.returns (by simp) (hb hby own_d3_54) hr
      · show Q3 Z a1 p2 k v0 v1 v2 h0 n0 _ s₁.heap _
        rw [e0]
        exact ⟨(congrArg (fun z => some (Value.int z)) (by unfold own_f_rm3; rw [if_pos hc35, if_pos hc46] : (1 : Int32) = (own_f_rm3 p2 v0 v1 v2))), N0, rfl⟩
    · obtain ⟨fs, hr, hrun, hended, hW, hsame⟩ := X0.leave (v := some (.int (0 : Int32))) (fun h => by rw [Bd.returns] at h; cases h)
      refine ⟨_, _, pre28 _ ?_, hrun, hended, _, _, rfl, ?_, ⟨_, rfl⟩, hW, hsame.mono (by decide) (by decide)⟩
      · show Steps p.tables e below (s₁.setTop (mkF m 46 #[.val (.ref a1), .val (.int p2), .val (.int (((v0 &&& (255 : Int32)) <<< ((8 : Int32) &&& 31)) ||| (v1 &&& (255 : Int32))))] [(.int p2), (.int (v2 &&& (255 : Int32)))])) _
        refine XS.icmpYes X0.here hx rfl (pc0 := 46) (pc' := 53) rfl (hb hby own_d3_46) rfl (feq hc46).2 (by decide) (by decide) ?_
        show Steps p.tables e below (s₁.setTop (mkF m 53 #[.val (.ref a1), .val (.int p2), .val (.int (((v0 &&& (255 : Int32)) <<< ((8 : Int32) &&& 31)) ||| (v1 &&& (255 : Int32))))] [])) _
        refine XS.iconst X0.here hx rfl (hb hby own_d3_53) ?_
        show Steps p.tables e below (s₁.setTop (mkF m 54 #[.val (.ref a1), .val (.int p2), .val (.int (((v0 &&& (255 : Int32)) <<< ((8 : Int32) &&& 31)) ||| (v1 &&& (255 : Int32))))] [(.int (0 : Int32))])) _
        exact retN X0 hx (t := .boolean) Bd.returns (by simp) (hb hby own_d3_54) hr
      · show Q3 Z a1 p2 k v0 v1 v2 h0 n0 _ s₁.heap _
        rw [e0]
        exact ⟨(congrArg (fun z => some (Value.int z)) (by unfold own_f_rm3; rw [if_pos hc35, if_neg hc46] : (0 : Int32) = (own_f_rm3 p2 v0 v1 v2))), N0, rfl⟩
  · obtain ⟨fs, hr, hrun, hended, hW, hsame⟩ := X0.leave (v := some (.int (0 : Int32))) (fun h => by rw [Bd.returns] at h; cases h)
    refine ⟨_, _, pre26 _ ?_, hrun, hended, _, _, rfl, ?_, ⟨_, rfl⟩, hW, hsame.mono (by decide) (by decide)⟩
    · show Steps p.tables e below (s₁.setTop (mkF m 35 #[.val (.ref a1), .val (.int p2), .val (.int (((v0 &&& (255 : Int32)) <<< ((8 : Int32) &&& 31)) ||| (v1 &&& (255 : Int32))))] [(.int (4096 : Int32)), (.int (((v0 &&& (255 : Int32)) <<< ((8 : Int32) &&& 31)) ||| (v1 &&& (255 : Int32))))])) _
      refine XS.icmpYes X0.here hx rfl (pc0 := 35) (pc' := 53) rfl (hb hby own_d3_35) rfl (feq hc35).2 (by decide) (by decide) ?_
      show Steps p.tables e below (s₁.setTop (mkF m 53 #[.val (.ref a1), .val (.int p2), .val (.int (((v0 &&& (255 : Int32)) <<< ((8 : Int32) &&& 31)) ||| (v1 &&& (255 : Int32))))] [])) _
      refine XS.iconst X0.here hx rfl (hb hby own_d3_53) ?_
      show Steps p.tables e below (s₁.setTop (mkF m 54 #[.val (.ref a1), .val (.int p2), .val (.int (((v0 &&& (255 : Int32)) <<< ((8 : Int32) &&& 31)) ||| (v1 &&& (255 : Int32))))] [(.int (0 : Int32))])) _
      exact retN X0 hx (t := .boolean) Bd.returns (by simp) (hb hby own_d3_54) hr
    · show Q3 Z a1 p2 k v0 v1 v2 h0 n0 _ s₁.heap _
      rw [e0]
      exact ⟨(congrArg (fun z => some (Value.int z)) (by unfold own_f_rm3; rw [if_neg hc35] : (0 : Int32) = (own_f_rm3 p2 v0 v1 v2))), N0, rfl⟩
theorem own_pd1 : parseMethodDescriptor "(Z)[B" = some ⟨[.boolean], some (.array .byte)⟩ := by decide +kernel
theorem own_pd2 : parseMethodDescriptor "([BI)Z" = some ⟨[(.array .byte), .int], some .boolean⟩ := by decide +kernel
theorem own_ef_rm0 (m : MethodId) (p0 : Int32) : entryFrame m #[(.int p0)] maxLocals = mkF m 0 #[.val (.int p0), .unset, .unset, .unset, .unset] [] := by first | (simp [entryFrame, mkF, argsToLocals, Value.category, maxLocals]; done) | rfl
def Q0 (Z : State) (p0 : Int32) (h0 : Heap) (n0 : Nat) (v : Option Value) (h : Heap) (L : List Loc) : Prop := v = some (.int (1 : Int32)) ∧ Fr n0 L
set_option maxRecDepth 65536 in
set_option maxHeartbeats 40000000 in
theorem rm0 (l : Launch) (Z : State) (a0 : Array Value) (hw : ∀ d ∈ tables_1, d.before a0 Z = true) (ws : List Jvm.Cond) (p0 : Int32) (h0 : Heap) (n0 : Nat) (Z0 : n0 ≤ h0.size) :
    MetFree l x (head1 (Jvm.Cond.code x code maxLocals ret :: ws) room_1) (fun a U => a = #[(.int p0)] ∧ Z.Warmed39 U.vm ∧ U.heap = h0) (fun _ _ _ _ _ => True) (fun _ U o U' => ∃ v L, o = .returned v ∧ Q0 Z p0 h0 n0 v U'.heap L ∧ FrameEnd U o U' L room_1.cells room_1.slots) := by
  refine MetFree.of_bodySF (plainFor_of_name own_pn1) hisR ?_
  intro p e s m args below meth c s₁ Bd hml0 hP hK
  obtain ⟨rfl, hZ, hh⟩ := hP
  have hx := Bd.exec
  have hby := Bd.bytes
  have hml : c.maxLocals = 5 := hml0
  have hown : s.vm.findClass "com/example/postbag/postbag/protocol/ContentHeaderDeliveryModePropertiesPinLaw" = some m.cls := findClass_of_methodNamed Bd.named
  have hnm := (name_of_methodNamed Bd.named Bd.method).1
  have X0 : Stand p l e room_1 s m #[(.int p0)] below meth c s₁ [] 0 0 := Stand.of_body Bd
  have e0 : s₁.heap = h0 := by rw [← hh, Bd.state]; rfl
  have N0 := Fr.nil n0
  have K0 : Keep h0 h0 [] := Keep.refl h0 _
  have pre0 : ∀ t, Steps p.tables e below (s₁.setTop (mkF m 0 #[.val (.int p0), .unset, .unset, .unset, .unset] [])) t → Steps p.tables e below (s₁.setTop (entryFrame m #[(.int p0)] maxLocals)) t := fun t k => castTop (own_ef_rm0 m p0) k
  have pre29 : ∀ t, Steps p.tables e below (s₁.setTop (mkF m 3 #[.val (.int p0), .unset, .unset, .unset, .unset] [(.int (p0 &&& (1 : Int32)))])) t → Steps p.tables e below (s₁.setTop (entryFrame m #[(.int p0)] maxLocals)) t := fun t k => by
    refine pre0 _ ?_
    show Steps p.tables e below (s₁.setTop (mkF m 0 #[.val (.int p0), .unset, .unset, .unset, .unset] [])) _
    refine XS.iloadN X0.here hx rfl (hb hby at_0) rfl ?_
    show Steps p.tables e below (s₁.setTop (mkF m 1 #[.val (.int p0), .unset, .unset, .unset, .unset] [(.int p0)])) _
    refine XS.iconst X0.here hx rfl (hb hby at_1) ?_
    show Steps p.tables e below (s₁.setTop (mkF m 2 #[.val (.int p0), .unset, .unset, .unset, .unset] [(.int (1 : Int32)), (.int p0)])) _
    refine XS.iand X0.here hx rfl (hb hby at_2) rfl ?_
    exact k
  by_cases hc3 : (p0 &&& (1 : Int32)) = (0 : Int32)
  · obtain ⟨_, _, ⟨T30, L30, k30, n30⟩, -, X30, ⟨Lc30, hQ30, l30, y30, z30⟩, st30⟩ := Jvm.LawKit.callS X0 hx (y := (⟨"com/example/postbag/postbag/protocol/ContentHeader", "deliveryModeProperties", "(Z)[B"⟩ : MethodName)) hown (mvT hZ (hw _ (List.mem_of_getElem? (i := 0) rfl))) (mvT hZ (hw _ (List.mem_of_getElem? (i := 1) rfl))) (mvT hZ (hw _ (List.mem_of_getElem? (i := 2) rfl))) (mvT hZ (hw _ (List.mem_of_getElem? (i := 3) rfl))) (by decide) (backOf (W := 0) (rm1_0 l Z a0 hw []  h0 n0 (Nat.le_trans Z0 K0.1) ) hZ (hw _ (List.mem_of_getElem? (i := 3) rfl)) (hw _ (List.mem_of_getElem? (i := 2) rfl)) (by decide) (by decide)) (g := (mkF m 23 #[.val (.int p0), .val (.int (0 : Int32)), .val (.int (1 : Int32)), .unset, .unset] [(.int (0 : Int32))])) rfl (by rw [hml]; rfl) (argsL := [(.int (0 : Int32))]) (rest := []) (lenOf own_pd1 rfl) rfl (by show 2 * 0 + _ ≤ _; exact Nat.le_of_eq rfl) (hb hby at_23) (fun _ _ => ⟨rfl, e0, (by decide : 0 + 1 ≤ _), (by decide : 0 + 3 ≤ _)⟩)
    dsimp only [Pt.U, Pt.locs, Pt.cells, Pt.slots] at X30 l30 y30 z30 st30 hQ30
    subst l30 y30 z30
    obtain ⟨b_30, k_30, rfl, N30q, i30_4, i30_5, i30_6⟩ := hQ30
    have N30 := Fr.app N0 N30q
    have gg_b_30 : n0 ≤ b_30 := Nat.le_trans (Nat.le_trans Z0 K0.1) i30_5
    have sz_b_30 : h0.size ≤ b_30 := Nat.le_trans K0.1 i30_5
    have K30 := K0.trans i30_4 all0
    obtain ⟨_, _, ⟨T31, L31, k31, n31⟩, -, X31, ⟨Lc31, hQ31, l31, y31, z31⟩, st31⟩ := Jvm.LawKit.callS X30 hx (y := (⟨"com/example/postbag/postbag/protocol/ContentHeaderDeliveryModePropertiesPinLaw", "exact", "([BI)Z"⟩ : MethodName)) hown (mvT hZ (hw _ (List.mem_of_getElem? (i := 8) rfl))) (mvT hZ (hw _ (List.mem_of_getElem? (i := 9) rfl))) (mvT hZ (hw _ (List.mem_of_getElem? (i := 10) rfl))) (mvT hZ (hw _ (List.mem_of_getElem? (i := 11) rfl))) (by decide) (backOf (W := 0) (rm3 l Z a0 hw [] b_30 (1 : Int32) k_30 (16 : Int32) (0 : Int32) (1 : Int32) T30.heap n0 (Nat.le_trans Z0 K30.1) i30_6) hZ (hw _ (List.mem_of_getElem? (i := 11) rfl)) (hw _ (List.mem_of_getElem? (i := 10) rfl)) (by decide) (by decide)) (g := (mkF m 29 #[.val (.int p0), .val (.int (0 : Int32)), .val (.int (1 : Int32)), .val (.ref b_30), .unset] [(.int (1 : Int32)), (.ref b_30)])) rfl (by rw [hml]; rfl) (argsL := [(.ref b_30), (.int (1 : Int32))]) (rest := []) (lenOf own_pd2 rfl) rfl (by show 2 * 0 + _ ≤ _; exact Nat.le_of_eq rfl) (hb hby at_29) (fun _ _ => ⟨rfl, rfl, (by decide : 1 + 0 ≤ _), (by decide : 3 + 0 ≤ _)⟩)
    dsimp only [Pt.U, Pt.locs, Pt.cells, Pt.slots] at X31 l31 y31 z31 st31 hQ31
    subst l31 y31 z31
    obtain ⟨rfl, N31q, e31⟩ := hQ31
    have N31 := Fr.app N30 N31q
    have hc32_32 : ¬ ((own_f_rm3 (1 : Int32) (16 : Int32) (0 : Int32) (1 : Int32)) = (0 : Int32)) := by decide
    obtain ⟨cl33, Ar33, q33, S33, M33, H33, G33⟩ := id i30_6
    have hin33 : ¬ ((0 : Int32) < 0 ∨ cl33.slots.size ≤ ((0 : Int32)).toNatClampNeg) := inb_of S33 ⟨by decide, by decide⟩
    obtain ⟨T34, h34, X34, e34, W34, st34⟩ := stB X31 hx hZ e31 Ar33 (j := (0 : Int32)) hin33 (g := (mkF m 40 #[.val (.int p0), .val (.int (0 : Int32)), .val (.int (1 : Int32)), .val (.ref b_30), .unset] [(.int (0 : Int32)), (.int (0 : Int32)), (.ref b_30)])) rfl rfl (hb hby at_40)
    have V34 : Arv Z h34 b_30 k_30 .byte (3 : Int32) [(.int (0 : Int32)), (.int (0 : Int32)), (.int (1 : Int32))] (.int (0 : Int32)) := Arv.set Ar33 q33 S33 M33 H33 G33 (fits_nar_byte _) W34 0 rfl (Nat.le_of_ble_eq_true rfl)
    have K34 := K30.wr W34 (Or.inr sz_b_30)
    have N34 := Fr.snoc X34 N31 gg_b_30
    obtain ⟨cl35, Ar35, q35, S35, M35, H35, G35⟩ := id V34
    have hin35 : ¬ ((1 : Int32) < 0 ∨ cl35.slots.size ≤ ((1 : Int32)).toNatClampNeg) := inb_of S35 ⟨by decide, by decide⟩
    obtain ⟨T36, h36, X36, e36, W36, st36⟩ := stB X34 hx hZ e34 Ar35 (j := (1 : Int32)) hin35 (g := (mkF m 44 #[.val (.int p0), .val (.int (0 : Int32)), .val (.int (1 : Int32)), .val (.ref b_30), .unset] [(.int (0 : Int32)), (.int (1 : Int32)), (.ref b_30)])) rfl rfl (hb hby at_44)
    have V36 : Arv Z h36 b_30 k_30 .byte (3 : Int32) [(.int (0 : Int32)), (.int (0 : Int32)), (.int (1 : Int32))] (.int (0 : Int32)) := Arv.set Ar35 q35 S35 M35 H35 G35 (fits_nar_byte _) W36 1 rfl (Nat.le_of_ble_eq_true rfl)
    have K36 := K34.wr W36 (Or.inr sz_b_30)
    have N36 := Fr.snoc X36 N34 gg_b_30
    obtain ⟨cl37, Ar37, q37, S37, M37, H37, G37⟩ := id V36
    have hin37 : ¬ ((2 : Int32) < 0 ∨ cl37.slots.size ≤ ((2 : Int32)).toNatClampNeg) := inb_of S37 ⟨by decide, by decide⟩
    obtain ⟨T38, h38, X38, e38, W38, st38⟩ := stB X36 hx hZ e36 Ar37 (j := (2 : Int32)) hin37 (g := (mkF m 48 #[.val (.int p0), .val (.int (0 : Int32)), .val (.int (1 : Int32)), .val (.ref b_30), .unset] [(.int (0 : Int32)), (.int (2 : Int32)), (.ref b_30)])) rfl rfl (hb hby at_48)
    have V38 : Arv Z h38 b_30 k_30 .byte (3 : Int32) [(.int (0 : Int32)), (.int (0 : Int32)), (.int (0 : Int32))] (.int (0 : Int32)) := Arv.set Ar37 q37 S37 M37 H37 G37 (fits_nar_byte _) W38 2 rfl (Nat.le_of_ble_eq_true rfl)
    have K38 := K36.wr W38 (Or.inr sz_b_30)
    have N38 := Fr.snoc X38 N36 gg_b_30
    obtain ⟨_, _, ⟨T39, L39, k39, n39⟩, -, X39, ⟨Lc39, hQ39, l39, y39, z39⟩, st39⟩ := Jvm.LawKit.callS X38 hx (y := (⟨"com/example/postbag/postbag/protocol/ContentHeader", "deliveryModeProperties", "(Z)[B"⟩ : MethodName)) hown (mvT hZ (hw _ (List.mem_of_getElem? (i := 0) rfl))) (mvT hZ (hw _ (List.mem_of_getElem? (i := 1) rfl))) (mvT hZ (hw _ (List.mem_of_getElem? (i := 2) rfl))) (mvT hZ (hw _ (List.mem_of_getElem? (i := 3) rfl))) (by decide) (backOf (W := 0) (rm1_0 l Z a0 hw []  h38 n0 (Nat.le_trans Z0 K38.1) ) hZ (hw _ (List.mem_of_getElem? (i := 3) rfl)) (hw _ (List.mem_of_getElem? (i := 2) rfl)) (by decide) (by decide)) (g := (mkF m 50 #[.val (.int p0), .val (.int (0 : Int32)), .val (.int (1 : Int32)), .val (.ref b_30), .unset] [(.int (0 : Int32))])) rfl (by rw [hml]; rfl) (argsL := [(.int (0 : Int32))]) (rest := []) (lenOf own_pd1 rfl) rfl (by show 2 * 0 + _ ≤ _; exact Nat.le_of_eq rfl) (hb hby at_50) (fun _ _ => ⟨rfl, e38, (by decide : 1 + 1 ≤ _), (by decide : 3 + 3 ≤ _)⟩)
    dsimp only [Pt.U, Pt.locs, Pt.cells, Pt.slots] at X39 l39 y39 z39 st39 hQ39
    subst l39 y39 z39
    obtain ⟨b_39, k_39, rfl, N39q, i39_4, i39_5, i39_6⟩ := hQ39
    have N39 := Fr.app N38 N39q
    have ne_b_30_b_39 : b_30 ≠ b_39 := Nat.ne_of_lt (Nat.lt_of_lt_of_le V38.lt i39_5)
    have gg_b_39 : n0 ≤ b_39 := Nat.le_trans (Nat.le_trans Z0 K38.1) i39_5
    have sz_b_39 : h0.size ≤ b_39 := Nat.le_trans K38.1 i39_5
    have K39 := K38.trans i39_4 all0
    obtain ⟨_, _, ⟨T40, L40, k40, n40⟩, -, X40, ⟨Lc40, hQ40, l40, y40, z40⟩, st40⟩ := Jvm.LawKit.callS X39 hx (y := (⟨"com/example/postbag/postbag/protocol/ContentHeaderDeliveryModePropertiesPinLaw", "exact", "([BI)Z"⟩ : MethodName)) hown (mvT hZ (hw _ (List.mem_of_getElem? (i := 8) rfl))) (mvT hZ (hw _ (List.mem_of_getElem? (i := 9) rfl))) (mvT hZ (hw _ (List.mem_of_getElem? (i := 10) rfl))) (mvT hZ (hw _ (List.mem_of_getElem? (i := 11) rfl))) (by decide) (backOf (W := 0) (rm3 l Z a0 hw [] b_39 (1 : Int32) k_39 (16 : Int32) (0 : Int32) (1 : Int32) T39.heap n0 (Nat.le_trans Z0 K39.1) i39_6) hZ (hw _ (List.mem_of_getElem? (i := 11) rfl)) (hw _ (List.mem_of_getElem? (i := 10) rfl)) (by decide) (by decide)) (g := (mkF m 58 #[.val (.int p0), .val (.int (0 : Int32)), .val (.int (1 : Int32)), .val (.ref b_30), .val (.ref b_39)] [(.int (1 : Int32)), (.ref b_39)])) rfl (by rw [hml]; rfl) (argsL := [(.ref b_39), (.int (1 : Int32))]) (rest := []) (lenOf own_pd2 rfl) rfl (by show 2 * 0 + _ ≤ _; exact Nat.le_of_eq rfl) (hb hby at_58) (fun _ _ => ⟨rfl, rfl, (by decide : 2 + 0 ≤ _), (by decide : 6 + 0 ≤ _)⟩)
    dsimp only [Pt.U, Pt.locs, Pt.cells, Pt.slots] at X40 l40 y40 z40 st40 hQ40
    subst l40 y40 z40
    obtain ⟨rfl, N40q, e40⟩ := hQ40
    have N40 := Fr.app N39 N40q
    obtain ⟨fs, hr, hrun, hended, hW, hsame⟩ := X40.leave (v := some (.int (nar .boolean (own_f_rm3 (1 : Int32) (16 : Int32) (0 : Int32) (1 : Int32))))) (fun h => by rw [Bd.returns] at h; cases h)
    refine ⟨_, _, pre29 _ ?_, hrun, hended, _, _, rfl, ?_, ⟨_, rfl⟩, hW, hsame.mono (by decide) (by decide)⟩
    · show Steps p.tables e below (s₁.setTop (mkF m 3 #[.val (.int p0), .unset, .unset, .unset, .unset] [(.int (p0 &&& (1 : Int32)))])) _
      refine XS.ifYes X0.here hx rfl (pc0 := 3) (pc' := 10) rfl (hb hby at_3) rfl ((if0 _ _).trans (teq hc3).1) (by decide) (by decide) ?_
      show Steps p.tables e below (s₁.setTop (mkF m 10 #[.val (.int p0), .unset, .unset, .unset, .unset] [])) _
      refine XS.iconst X0.here hx rfl (hb hby at_10) ?_
      show Steps p.tables e below (s₁.setTop (mkF m 11 #[.val (.int p0), .unset, .unset, .unset, .unset] [(.int (0 : Int32))])) _
      refine XS.istoreN X0.here hx rfl (hb hby at_11) rfl (l' := #[.val (.int p0), .val (.int (0 : Int32)), .unset, .unset, .unset]) rfl ?_
      show Steps p.tables e below (s₁.setTop (mkF m 12 #[.val (.int p0), .val (.int (0 : Int32)), .unset, .unset, .unset] [])) _
      refine XS.iloadN X0.here hx rfl (hb hby at_12) rfl ?_
      show Steps p.tables e below (s₁.setTop (mkF m 13 #[.val (.int p0), .val (.int (0 : Int32)), .unset, .unset, .unset] [(.int (0 : Int32))])) _
      refine XS.ifYes X0.here hx rfl (pc0 := 13) (pc' := 20) rfl (hb hby at_13) rfl ((if0 _ _).trans (teq (by decide : ((0 : Int32) = (0 : Int32)))).1) (by decide) (by decide) ?_
      show Steps p.tables e below (s₁.setTop (mkF m 20 #[.val (.int p0), .val (.int (0 : Int32)), .unset, .unset, .unset] [])) _
      refine XS.iconst X0.here hx rfl (hb hby at_20) ?_
      show Steps p.tables e below (s₁.setTop (mkF m 21 #[.val (.int p0), .val (.int (0 : Int32)), .unset, .unset, .unset] [(.int (1 : Int32))])) _
      refine XS.istoreN X0.here hx rfl (hb hby at_21) rfl (l' := #[.val (.int p0), .val (.int (0 : Int32)), .val (.int (1 : Int32)), .unset, .unset]) rfl ?_
      show Steps p.tables e below (s₁.setTop (mkF m 22 #[.val (.int p0), .val (.int (0 : Int32)), .val (.int (1 : Int32)), .unset, .unset] [])) _
      refine XS.iloadN X0.here hx rfl (hb hby at_22) rfl ?_
      show Steps p.tables e below (s₁.setTop (mkF m 23 #[.val (.int p0), .val (.int (0 : Int32)), .val (.int (1 : Int32)), .unset, .unset] [(.int (0 : Int32))])) _
      refine st30 _ ?_
      show Steps p.tables e below (T30.setTop (mkF m 26 #[.val (.int p0), .val (.int (0 : Int32)), .val (.int (1 : Int32)), .unset, .unset] [(.ref b_30)])) _
      refine XS.astoreN X30.here hx rfl (hb hby at_26) rfl rfl (l' := #[.val (.int p0), .val (.int (0 : Int32)), .val (.int (1 : Int32)), .val (.ref b_30), .unset]) rfl ?_
      show Steps p.tables e below (T30.setTop (mkF m 27 #[.val (.int p0), .val (.int (0 : Int32)), .val (.int (1 : Int32)), .val (.ref b_30), .unset] [])) _
      refine XS.aloadN X30.here hx rfl (hb hby at_27) rfl rfl ?_
      show Steps p.tables e below (T30.setTop (mkF m 28 #[.val (.int p0), .val (.int (0 : Int32)), .val (.int (1 : Int32)), .val (.ref b_30), .unset] [(.ref b_30)])) _
      refine XS.iloadN X30.here hx rfl (hb hby at_28) rfl ?_
      show Steps p.tables e below (T30.setTop (mkF m 29 #[.val (.int p0), .val (.int (0 : Int32)), .val (.int (1 : Int32)), .val (.ref b_30), .unset] [(.int (1 : Int32)), (.ref b_30)])) _
      refine st31 _ ?_
      show Steps p.tables e below (T31.setTop (mkF m 32 #[.val (.int p0), .val (.int (0 : Int32)), .val (.int (1 : Int32)), .val (.ref b_30), .unset] [(.int (own_f_rm3 (1 : Int32) (16 : Int32) (0 : Int32) (1 : Int32)))])) _
      refine XS.ifYes X31.here hx rfl (pc0 := 32) (pc' := 37) rfl (hb hby at_32) rfl ((if0 _ _).trans (feq hc32_32).2) (by decide) (by decide) ?_
      show Steps p.tables e below (T31.setTop (mkF m 37 #[.val (.int p0), .val (.int (0 : Int32)), .val (.int (1 : Int32)), .val (.ref b_30), .unset] [])) _
      refine XS.aloadN X31.here hx rfl (hb hby at_37) rfl rfl ?_
      show Steps p.tables e below (T31.setTop (mkF m 38 #[.val (.int p0), .val (.int (0 : Int32)), .val (.int (1 : Int32)), .val (.ref b_30), .unset] [(.ref b_30)])) _
      refine XS.iconst X31.here hx rfl (hb hby at_38) ?_
      show Steps p.tables e below (T31.setTop (mkF m 39 #[.val (.int p0), .val (.int (0 : Int32)), .val (.int (1 : Int32)), .val (.ref b_30), .unset] [(.int (0 : Int32)), (.ref b_30)])) _
      refine XS.iconst X31.here hx rfl (hb hby at_39) ?_
      show Steps p.tables e below (T31.setTop (mkF m 40 #[.val (.int p0), .val (.int (0 : Int32)), .val (.int (1 : Int32)), .val (.ref b_30), .unset] [(.int (0 : Int32)), (.int (0 : Int32)), (.ref b_30)])) _
      refine st34 _ ?_
      show Steps p.tables e below (T34.setTop (mkF m 41 #[.val (.int p0), .val (.int (0 : Int32)), .val (.int (1 : Int32)), .val (.ref b_30), .unset] [])) _
      refine XS.aloadN X34.here hx rfl (hb hby at_41) rfl rfl ?_
      show Steps p.tables e below (T34.setTop (mkF m 42 #[.val (.int p0), .val (.int (0 : Int32)), .val (.int (1 : Int32)), .val (.ref b_30), .unset] [(.ref b_30)])) _
      refine XS.iconst X34.here hx rfl (hb hby at_42) ?_
      show Steps p.tables e below (T34.setTop (mkF m 43 #[.val (.int p0), .val (.int (0 : Int32)), .val (.int (1 : Int32)), .val (.ref b_30), .unset] [(.int (1 : Int32)), (.ref b_30)])) _
      refine XS.iconst X34.here hx rfl (hb hby at_43) ?_
      show Steps p.tables e below (T34.setTop (mkF m 44 #[.val (.int p0), .val (.int (0 : Int32)), .val (.int (1 : Int32)), .val (.ref b_30), .unset] [(.int (0 : Int32)), (.int (1 : Int32)), (.ref b_30)])) _
      refine st36 _ ?_
      show Steps p.tables e below (T36.setTop (mkF m 45 #[.val (.int p0), .val (.int (0 : Int32)), .val (.int (1 : Int32)), .val (.ref b_30), .unset] [])) _
      refine XS.aloadN X36.here hx rfl (hb hby at_45) rfl rfl ?_
      show Steps p.tables e below (T36.setTop (mkF m 46 #[.val (.int p0), .val (.int (0 : Int32)), .val (.int (1 : Int32)), .val (.ref b_30), .unset] [(.ref b_30)])) _
      refine XS.iconst X36.here hx rfl (hb hby at_46) ?_
      show Steps p.tables e below (T36.setTop (mkF m 47 #[.val (.int p0), .val (.int (0 : Int32)), .val (.int (1 : Int32)), .val (.ref b_30), .unset] [(.int (2 : Int32)), (.ref b_30)])) _
      refine XS.iconst X36.here hx rfl (hb hby at_47) ?_
      show Steps p.tables e below (T36.setTop (mkF m 48 #[.val (.int p0), .val (.int (0 : Int32)), .val (.int (1 : Int32)), .val (.ref b_30), .unset] [(.int (0 : Int32)), (.int (2 : Int32)), (.ref b_30)])) _
      refine st38 _ ?_
      show Steps p.tables e below (T38.setTop (mkF m 49 #[.val (.int p0), .val (.int (0 : Int32)), .val (.int (1 : Int32)), .val (.ref b_30), .unset] [])) _
      refine XS.iloadN X38.here hx rfl (hb hby at_49) rfl ?_
      show Steps p.tables e below (T38.setTop (mkF m 50 #[.val (.int p0), .val (.int (0 : Int32)), .val (.int (1 : Int32)), .val (.ref b_30), .unset] [(.int (0 : Int32))])) _
      refine st39 _ ?_
      show Steps p.tables e below (T39.setTop (mkF m 53 #[.val (.int p0), .val (.int (0 : Int32)), .val (.int (1 : Int32)), .val (.ref b_30), .unset] [(.ref b_39)])) _
      refine XS.astore X39.here hx rfl (hb hby at_53) rfl rfl (l' := #[.val (.int p0), .val (.int (0 : Int32)), .val (.int (1 : Int32)), .val (.ref b_30), .val (.ref b_39)]) rfl ?_
      show Steps p.tables e below (T39.setTop (mkF m 55 #[.val (.int p0), .val (.int (0 : Int32)), .val (.int (1 : Int32)), .val (.ref b_30), .val (.ref b_39)] [])) _
      refine XS.aload X39.here hx rfl (hb hby at_55) rfl rfl ?_
      show Steps p.tables e below (T39.setTop (mkF m 57 #[.val (.int p0), .val (.int (0 : Int32)), .val (.int (1 : Int32)), .val (.ref b_30), .val (.ref b_39)] [(.ref b_39)])) _
      refine XS.iloadN X39.here hx rfl (hb hby at_57) rfl ?_
      show Steps p.tables e below (T39.setTop (mkF m 58 #[.val (.int p0), .val (.int (0 : Int32)), .val (.int (1 : Int32)), .val (.ref b_30), .val (.ref b_39)] [(.int (1 : Int32)), (.ref b_39)])) _
      refine st40 _ ?_
      show Steps p.tables e below (T40.setTop (mkF m 61 #[.val (.int p0), .val (.int (0 : Int32)), .val (.int (1 : Int32)), .val (.ref b_30), .val (.ref b_39)] [(.int (own_f_rm3 (1 : Int32) (16 : Int32) (0 : Int32) (1 : Int32)))])) _
      exact retN X40 hx (t := .boolean) Bd.returns (by simp) (hb hby at_61) hr
    · show Q0 Z p0 h0 n0 _ T40.heap _
      rw [e40]
      exact ⟨(congrArg (fun z => some (Value.int z)) (by decide : (nar .boolean (own_f_rm3 (1 : Int32) (16 : Int32) (0 : Int32) (1 : Int32))) = (1 : Int32))), N40⟩
  · obtain ⟨_, _, ⟨T41, L41, k41, n41⟩, -, X41, ⟨Lc41, hQ41, l41, y41, z41⟩, st41⟩ := Jvm.LawKit.callS X0 hx (y := (⟨"com/example/postbag/postbag/protocol/ContentHeader", "deliveryModeProperties", "(Z)[B"⟩ : MethodName)) hown (mvT hZ (hw _ (List.mem_of_getElem? (i := 0) rfl))) (mvT hZ (hw _ (List.mem_of_getElem? (i := 1) rfl))) (mvT hZ (hw _ (List.mem_of_getElem? (i := 2) rfl))) (mvT hZ (hw _ (List.mem_of_getElem? (i := 3) rfl))) (by decide) (backOf (W := 0) (rm1_1 l Z a0 hw []  h0 n0 (Nat.le_trans Z0 K0.1) ) hZ (hw _ (List.mem_of_getElem? (i := 3) rfl)) (hw _ (List.mem_of_getElem? (i := 2) rfl)) (by decide) (by decide)) (g := (mkF m 23 #[.val (.int p0), .val (.int (1 : Int32)), .val (.int (2 : Int32)), .unset, .unset] [(.int (1 : Int32))])) rfl (by rw [hml]; rfl) (argsL := [(.int (1 : Int32))]) (rest := []) (lenOf own_pd1 rfl) rfl (by show 2 * 0 + _ ≤ _; exact Nat.le_of_eq rfl) (hb hby at_23) (fun _ _ => ⟨rfl, e0, (by decide : 0 + 1 ≤ _), (by decide : 0 + 3 ≤ _)⟩)
    dsimp only [Pt.U, Pt.locs, Pt.cells, Pt.slots] at X41 l41 y41 z41 st41 hQ41
    subst l41 y41 z41
    obtain ⟨b_41, k_41, rfl, N41q, i41_4, i41_5, i41_6⟩ := hQ41
    have N41 := Fr.app N0 N41q
    have gg_b_41 : n0 ≤ b_41 := Nat.le_trans (Nat.le_trans Z0 K0.1) i41_5
    have sz_b_41 : h0.size ≤ b_41 := Nat.le_trans K0.1 i41_5
    have K41 := K0.trans i41_4 all0
    obtain ⟨_, _, ⟨T42, L42, k42, n42⟩, -, X42, ⟨Lc42, hQ42, l42, y42, z42⟩, st42⟩ := Jvm.LawKit.callS X41 hx (y := (⟨"com/example/postbag/postbag/protocol/ContentHeaderDeliveryModePropertiesPinLaw", "exact", "([BI)Z"⟩ : MethodName)) hown (mvT hZ (hw _ (List.mem_of_getElem? (i := 8) rfl))) (mvT hZ (hw _ (List.mem_of_getElem? (i := 9) rfl))) (mvT hZ (hw _ (List.mem_of_getElem? (i := 10) rfl))) (mvT hZ (hw _ (List.mem_of_getElem? (i := 11) rfl))) (by decide) (backOf (W := 0) (rm3 l Z a0 hw [] b_41 (2 : Int32) k_41 (16 : Int32) (0 : Int32) (2 : Int32) T41.heap n0 (Nat.le_trans Z0 K41.1) i41_6) hZ (hw _ (List.mem_of_getElem? (i := 11) rfl)) (hw _ (List.mem_of_getElem? (i := 10) rfl)) (by decide) (by decide)) (g := (mkF m 29 #[.val (.int p0), .val (.int (1 : Int32)), .val (.int (2 : Int32)), .val (.ref b_41), .unset] [(.int (2 : Int32)), (.ref b_41)])) rfl (by rw [hml]; rfl) (argsL := [(.ref b_41), (.int (2 : Int32))]) (rest := []) (lenOf own_pd2 rfl) rfl (by show 2 * 0 + _ ≤ _; exact Nat.le_of_eq rfl) (hb hby at_29) (fun _ _ => ⟨rfl, rfl, (by decide : 1 + 0 ≤ _), (by decide : 3 + 0 ≤ _)⟩)
    dsimp only [Pt.U, Pt.locs, Pt.cells, Pt.slots] at X42 l42 y42 z42 st42 hQ42
    subst l42 y42 z42
    obtain ⟨rfl, N42q, e42⟩ := hQ42
    have N42 := Fr.app N41 N42q
    have hc32_43 : ¬ ((own_f_rm3 (2 : Int32) (16 : Int32) (0 : Int32) (2 : Int32)) = (0 : Int32)) := by decide
    obtain ⟨cl44, Ar44, q44, S44, M44, H44, G44⟩ := id i41_6
    have hin44 : ¬ ((0 : Int32) < 0 ∨ cl44.slots.size ≤ ((0 : Int32)).toNatClampNeg) := inb_of S44 ⟨by decide, by decide⟩
    obtain ⟨T45, h45, X45, e45, W45, st45⟩ := stB X42 hx hZ e42 Ar44 (j := (0 : Int32)) hin44 (g := (mkF m 40 #[.val (.int p0), .val (.int (1 : Int32)), .val (.int (2 : Int32)), .val (.ref b_41), .unset] [(.int (0 : Int32)), (.int (0 : Int32)), (.ref b_41)])) rfl rfl (hb hby at_40)
    have V45 : Arv Z h45 b_41 k_41 .byte (3 : Int32) [(.int (0 : Int32)), (.int (0 : Int32)), (.int (2 : Int32))] (.int (0 : Int32)) := Arv.set Ar44 q44 S44 M44 H44 G44 (fits_nar_byte _) W45 0 rfl (Nat.le_of_ble_eq_true rfl)
    have K45 := K41.wr W45 (Or.inr sz_b_41)
    have N45 := Fr.snoc X45 N42 gg_b_41
    obtain ⟨cl46, Ar46, q46, S46, M46, H46, G46⟩ := id V45
    have hin46 : ¬ ((1 : Int32) < 0 ∨ cl46.slots.size ≤ ((1 : Int32)).toNatClampNeg) := inb_of S46 ⟨by decide, by decide⟩
    obtain ⟨T47, h47, X47, e47, W47, st47⟩ := stB X45 hx hZ e45 Ar46 (j := (1 : Int32)) hin46 (g := (mkF m 44 #[.val (.int p0), .val (.int (1 : Int32)), .val (.int (2 : Int32)), .val (.ref b_41), .unset] [(.int (0 : Int32)), (.int (1 : Int32)), (.ref b_41)])) rfl rfl (hb hby at_44)
    have V47 : Arv Z h47 b_41 k_41 .byte (3 : Int32) [(.int (0 : Int32)), (.int (0 : Int32)), (.int (2 : Int32))] (.int (0 : Int32)) := Arv.set Ar46 q46 S46 M46 H46 G46 (fits_nar_byte _) W47 1 rfl (Nat.le_of_ble_eq_true rfl)
    have K47 := K45.wr W47 (Or.inr sz_b_41)
    have N47 := Fr.snoc X47 N45 gg_b_41
    obtain ⟨cl48, Ar48, q48, S48, M48, H48, G48⟩ := id V47
    have hin48 : ¬ ((2 : Int32) < 0 ∨ cl48.slots.size ≤ ((2 : Int32)).toNatClampNeg) := inb_of S48 ⟨by decide, by decide⟩
    obtain ⟨T49, h49, X49, e49, W49, st49⟩ := stB X47 hx hZ e47 Ar48 (j := (2 : Int32)) hin48 (g := (mkF m 48 #[.val (.int p0), .val (.int (1 : Int32)), .val (.int (2 : Int32)), .val (.ref b_41), .unset] [(.int (0 : Int32)), (.int (2 : Int32)), (.ref b_41)])) rfl rfl (hb hby at_48)
    have V49 : Arv Z h49 b_41 k_41 .byte (3 : Int32) [(.int (0 : Int32)), (.int (0 : Int32)), (.int (0 : Int32))] (.int (0 : Int32)) := Arv.set Ar48 q48 S48 M48 H48 G48 (fits_nar_byte _) W49 2 rfl (Nat.le_of_ble_eq_true rfl)
    have K49 := K47.wr W49 (Or.inr sz_b_41)
    have N49 := Fr.snoc X49 N47 gg_b_41
    obtain ⟨_, _, ⟨T50, L50, k50, n50⟩, -, X50, ⟨Lc50, hQ50, l50, y50, z50⟩, st50⟩ := Jvm.LawKit.callS X49 hx (y := (⟨"com/example/postbag/postbag/protocol/ContentHeader", "deliveryModeProperties", "(Z)[B"⟩ : MethodName)) hown (mvT hZ (hw _ (List.mem_of_getElem? (i := 0) rfl))) (mvT hZ (hw _ (List.mem_of_getElem? (i := 1) rfl))) (mvT hZ (hw _ (List.mem_of_getElem? (i := 2) rfl))) (mvT hZ (hw _ (List.mem_of_getElem? (i := 3) rfl))) (by decide) (backOf (W := 0) (rm1_1 l Z a0 hw []  h49 n0 (Nat.le_trans Z0 K49.1) ) hZ (hw _ (List.mem_of_getElem? (i := 3) rfl)) (hw _ (List.mem_of_getElem? (i := 2) rfl)) (by decide) (by decide)) (g := (mkF m 50 #[.val (.int p0), .val (.int (1 : Int32)), .val (.int (2 : Int32)), .val (.ref b_41), .unset] [(.int (1 : Int32))])) rfl (by rw [hml]; rfl) (argsL := [(.int (1 : Int32))]) (rest := []) (lenOf own_pd1 rfl) rfl (by show 2 * 0 + _ ≤ _; exact Nat.le_of_eq rfl) (hb hby at_50) (fun _ _ => ⟨rfl, e49, (by decide : 1 + 1 ≤ _), (by decide : 3 + 3 ≤ _)⟩)
    dsimp only [Pt.U, Pt.locs, Pt.cells, Pt.slots] at X50 l50 y50 z50 st50 hQ50
    subst l50 y50 z50
    obtain ⟨b_50, k_50, rfl, N50q, i50_4, i50_5, i50_6⟩ := hQ50
    have N50 := Fr.app N49 N50q
    have ne_b_41_b_50 : b_41 ≠ b_50 := Nat.ne_of_lt (Nat.lt_of_lt_of_le V49.lt i50_5)
    have gg_b_50 : n0 ≤ b_50 := Nat.le_trans (Nat.le_trans Z0 K49.1) i50_5
    have sz_b_50 : h0.size ≤ b_50 := Nat.le_trans K49.1 i50_5
    have K50 := K49.trans i50_4 all0
    obtain ⟨_, _, ⟨T51, L51, k51, n51⟩, -, X51, ⟨Lc51, hQ51, l51, y51, z51⟩, st51⟩ := Jvm.LawKit.callS X50 hx (y := (⟨"com/example/postbag/postbag/protocol/ContentHeaderDeliveryModePropertiesPinLaw", "exact", "([BI)Z"⟩ : MethodName)) hown (mvT hZ (hw _ (List.mem_of_getElem? (i := 8) rfl))) (mvT hZ (hw _ (List.mem_of_getElem? (i := 9) rfl))) (mvT hZ (hw _ (List.mem_of_getElem? (i := 10) rfl))) (mvT hZ (hw _ (List.mem_of_getElem? (i := 11) rfl))) (by decide) (backOf (W := 0) (rm3 l Z a0 hw [] b_50 (2 : Int32) k_50 (16 : Int32) (0 : Int32) (2 : Int32) T50.heap n0 (Nat.le_trans Z0 K50.1) i50_6) hZ (hw _ (List.mem_of_getElem? (i := 11) rfl)) (hw _ (List.mem_of_getElem? (i := 10) rfl)) (by decide) (by decide)) (g := (mkF m 58 #[.val (.int p0), .val (.int (1 : Int32)), .val (.int (2 : Int32)), .val (.ref b_41), .val (.ref b_50)] [(.int (2 : Int32)), (.ref b_50)])) rfl (by rw [hml]; rfl) (argsL := [(.ref b_50), (.int (2 : Int32))]) (rest := []) (lenOf own_pd2 rfl) rfl (by show 2 * 0 + _ ≤ _; exact Nat.le_of_eq rfl) (hb hby at_58) (fun _ _ => ⟨rfl, rfl, (by decide : 2 + 0 ≤ _), (by decide : 6 + 0 ≤ _)⟩)
    dsimp only [Pt.U, Pt.locs, Pt.cells, Pt.slots] at X51 l51 y51 z51 st51 hQ51
    subst l51 y51 z51
    obtain ⟨rfl, N51q, e51⟩ := hQ51
    have N51 := Fr.app N50 N51q
    obtain ⟨fs, hr, hrun, hended, hW, hsame⟩ := X51.leave (v := some (.int (nar .boolean (own_f_rm3 (2 : Int32) (16 : Int32) (0 : Int32) (2 : Int32))))) (fun h => by rw [Bd.returns] at h; cases h)
    refine ⟨_, _, pre29 _ ?_, hrun, hended, _, _, rfl, ?_, ⟨_, rfl⟩, hW, hsame.mono (by decide) (by decide)⟩
    · show Steps p.tables e below (s₁.setTop (mkF m 3 #[.val (.int p0), .unset, .unset, .unset, .unset] [(.int (p0 &&& (1 : Int32)))])) _
      refine XS.ifNo X0.here hx rfl (hb hby at_3) rfl ((if0 _ _).trans (feq hc3).1) ?_
      show Steps p.tables e below (s₁.setTop (mkF m 6 #[.val (.int p0), .unset, .unset, .unset, .unset] [])) _
      refine XS.iconst X0.here hx rfl (hb hby at_6) ?_
      show Steps p.tables e below (s₁.setTop (mkF m 7 #[.val (.int p0), .unset, .unset, .unset, .unset] [(.int (1 : Int32))])) _
      refine XS.goto X0.here hx rfl (pc0 := 7) (pc' := 11) rfl (hb hby at_7) (by decide) (by decide) ?_
      show Steps p.tables e below (s₁.setTop (mkF m 11 #[.val (.int p0), .unset, .unset, .unset, .unset] [(.int (1 : Int32))])) _
      refine XS.istoreN X0.here hx rfl (hb hby at_11) rfl (l' := #[.val (.int p0), .val (.int (1 : Int32)), .unset, .unset, .unset]) rfl ?_
      show Steps p.tables e below (s₁.setTop (mkF m 12 #[.val (.int p0), .val (.int (1 : Int32)), .unset, .unset, .unset] [])) _
      refine XS.iloadN X0.here hx rfl (hb hby at_12) rfl ?_
      show Steps p.tables e below (s₁.setTop (mkF m 13 #[.val (.int p0), .val (.int (1 : Int32)), .unset, .unset, .unset] [(.int (1 : Int32))])) _
      refine XS.ifNo X0.here hx rfl (hb hby at_13) rfl ((if0 _ _).trans (feq (by decide : ¬ ((1 : Int32) = (0 : Int32)))).1) ?_
      show Steps p.tables e below (s₁.setTop (mkF m 16 #[.val (.int p0), .val (.int (1 : Int32)), .unset, .unset, .unset] [])) _
      refine XS.iconst X0.here hx rfl (hb hby at_16) ?_
      show Steps p.tables e below (s₁.setTop (mkF m 17 #[.val (.int p0), .val (.int (1 : Int32)), .unset, .unset, .unset] [(.int (2 : Int32))])) _
      refine XS.goto X0.here hx rfl (pc0 := 17) (pc' := 21) rfl (hb hby at_17) (by decide) (by decide) ?_
      show Steps p.tables e below (s₁.setTop (mkF m 21 #[.val (.int p0), .val (.int (1 : Int32)), .unset, .unset, .unset] [(.int (2 : Int32))])) _
      refine XS.istoreN X0.here hx rfl (hb hby at_21) rfl (l' := #[.val (.int p0), .val (.int (1 : Int32)), .val (.int (2 : Int32)), .unset, .unset]) rfl ?_
      show Steps p.tables e below (s₁.setTop (mkF m 22 #[.val (.int p0), .val (.int (1 : Int32)), .val (.int (2 : Int32)), .unset, .unset] [])) _
      refine XS.iloadN X0.here hx rfl (hb hby at_22) rfl ?_
      show Steps p.tables e below (s₁.setTop (mkF m 23 #[.val (.int p0), .val (.int (1 : Int32)), .val (.int (2 : Int32)), .unset, .unset] [(.int (1 : Int32))])) _
      refine st41 _ ?_
      show Steps p.tables e below (T41.setTop (mkF m 26 #[.val (.int p0), .val (.int (1 : Int32)), .val (.int (2 : Int32)), .unset, .unset] [(.ref b_41)])) _
      refine XS.astoreN X41.here hx rfl (hb hby at_26) rfl rfl (l' := #[.val (.int p0), .val (.int (1 : Int32)), .val (.int (2 : Int32)), .val (.ref b_41), .unset]) rfl ?_
      show Steps p.tables e below (T41.setTop (mkF m 27 #[.val (.int p0), .val (.int (1 : Int32)), .val (.int (2 : Int32)), .val (.ref b_41), .unset] [])) _
      refine XS.aloadN X41.here hx rfl (hb hby at_27) rfl rfl ?_
      show Steps p.tables e below (T41.setTop (mkF m 28 #[.val (.int p0), .val (.int (1 : Int32)), .val (.int (2 : Int32)), .val (.ref b_41), .unset] [(.ref b_41)])) _
      refine XS.iloadN X41.here hx rfl (hb hby at_28) rfl ?_
      show Steps p.tables e below (T41.setTop (mkF m 29 #[.val (.int p0), .val (.int (1 : Int32)), .val (.int (2 : Int32)), .val (.ref b_41), .unset] [(.int (2 : Int32)), (.ref b_41)])) _
      refine st42 _ ?_
      show Steps p.tables e below (T42.setTop (mkF m 32 #[.val (.int p0), .val (.int (1 : Int32)), .val (.int (2 : Int32)), .val (.ref b_41), .unset] [(.int (own_f_rm3 (2 : Int32) (16 : Int32) (0 : Int32) (2 : Int32)))])) _
      refine XS.ifYes X42.here hx rfl (pc0 := 32) (pc' := 37) rfl (hb hby at_32) rfl ((if0 _ _).trans (feq hc32_43).2) (by decide) (by decide) ?_
      show Steps p.tables e below (T42.setTop (mkF m 37 #[.val (.int p0), .val (.int (1 : Int32)), .val (.int (2 : Int32)), .val (.ref b_41), .unset] [])) _
      refine XS.aloadN X42.here hx rfl (hb hby at_37) rfl rfl ?_
      show Steps p.tables e below (T42.setTop (mkF m 38 #[.val (.int p0), .val (.int (1 : Int32)), .val (.int (2 : Int32)), .val (.ref b_41), .unset] [(.ref b_41)])) _
      refine XS.iconst X42.here hx rfl (hb hby at_38) ?_
      show Steps p.tables e below (T42.setTop (mkF m 39 #[.val (.int p0), .val (.int (1 : Int32)), .val (.int (2 : Int32)), .val (.ref b_41), .unset] [(.int (0 : Int32)), (.ref b_41)])) _
      refine XS.iconst X42.here hx rfl (hb hby at_39) ?_
      show Steps p.tables e below (T42.setTop (mkF m 40 #[.val (.int p0), .val (.int (1 : Int32)), .val (.int (2 : Int32)), .val (.ref b_41), .unset] [(.int (0 : Int32)), (.int (0 : Int32)), (.ref b_41)])) _
      refine st45 _ ?_
      show Steps p.tables e below (T45.setTop (mkF m 41 #[.val (.int p0), .val (.int (1 : Int32)), .val (.int (2 : Int32)), .val (.ref b_41), .unset] [])) _
      refine XS.aloadN X45.here hx rfl (hb hby at_41) rfl rfl ?_
      show Steps p.tables e below (T45.setTop (mkF m 42 #[.val (.int p0), .val (.int (1 : Int32)), .val (.int (2 : Int32)), .val (.ref b_41), .unset] [(.ref b_41)])) _
      refine XS.iconst X45.here hx rfl (hb hby at_42) ?_
      show Steps p.tables e below (T45.setTop (mkF m 43 #[.val (.int p0), .val (.int (1 : Int32)), .val (.int (2 : Int32)), .val (.ref b_41), .unset] [(.int (1 : Int32)), (.ref b_41)])) _
      refine XS.iconst X45.here hx rfl (hb hby at_43) ?_
      show Steps p.tables e below (T45.setTop (mkF m 44 #[.val (.int p0), .val (.int (1 : Int32)), .val (.int (2 : Int32)), .val (.ref b_41), .unset] [(.int (0 : Int32)), (.int (1 : Int32)), (.ref b_41)])) _
      refine st47 _ ?_
      show Steps p.tables e below (T47.setTop (mkF m 45 #[.val (.int p0), .val (.int (1 : Int32)), .val (.int (2 : Int32)), .val (.ref b_41), .unset] [])) _
      refine XS.aloadN X47.here hx rfl (hb hby at_45) rfl rfl ?_
      show Steps p.tables e below (T47.setTop (mkF m 46 #[.val (.int p0), .val (.int (1 : Int32)), .val (.int (2 : Int32)), .val (.ref b_41), .unset] [(.ref b_41)])) _
      refine XS.iconst X47.here hx rfl (hb hby at_46) ?_
      show Steps p.tables e below (T47.setTop (mkF m 47 #[.val (.int p0), .val (.int (1 : Int32)), .val (.int (2 : Int32)), .val (.ref b_41), .unset] [(.int (2 : Int32)), (.ref b_41)])) _
      refine XS.iconst X47.here hx rfl (hb hby at_47) ?_
      show Steps p.tables e below (T47.setTop (mkF m 48 #[.val (.int p0), .val (.int (1 : Int32)), .val (.int (2 : Int32)), .val (.ref b_41), .unset] [(.int (0 : Int32)), (.int (2 : Int32)), (.ref b_41)])) _
      refine st49 _ ?_
      show Steps p.tables e below (T49.setTop (mkF m 49 #[.val (.int p0), .val (.int (1 : Int32)), .val (.int (2 : Int32)), .val (.ref b_41), .unset] [])) _
      refine XS.iloadN X49.here hx rfl (hb hby at_49) rfl ?_
      show Steps p.tables e below (T49.setTop (mkF m 50 #[.val (.int p0), .val (.int (1 : Int32)), .val (.int (2 : Int32)), .val (.ref b_41), .unset] [(.int (1 : Int32))])) _
      refine st50 _ ?_
      show Steps p.tables e below (T50.setTop (mkF m 53 #[.val (.int p0), .val (.int (1 : Int32)), .val (.int (2 : Int32)), .val (.ref b_41), .unset] [(.ref b_50)])) _
      refine XS.astore X50.here hx rfl (hb hby at_53) rfl rfl (l' := #[.val (.int p0), .val (.int (1 : Int32)), .val (.int (2 : Int32)), .val (.ref b_41), .val (.ref b_50)]) rfl ?_
      show Steps p.tables e below (T50.setTop (mkF m 55 #[.val (.int p0), .val (.int (1 : Int32)), .val (.int (2 : Int32)), .val (.ref b_41), .val (.ref b_50)] [])) _
      refine XS.aload X50.here hx rfl (hb hby at_55) rfl rfl ?_
      show Steps p.tables e below (T50.setTop (mkF m 57 #[.val (.int p0), .val (.int (1 : Int32)), .val (.int (2 : Int32)), .val (.ref b_41), .val (.ref b_50)] [(.ref b_50)])) _
      refine XS.iloadN X50.here hx rfl (hb hby at_57) rfl ?_
      show Steps p.tables e below (T50.setTop (mkF m 58 #[.val (.int p0), .val (.int (1 : Int32)), .val (.int (2 : Int32)), .val (.ref b_41), .val (.ref b_50)] [(.int (2 : Int32)), (.ref b_50)])) _
      refine st51 _ ?_
      show Steps p.tables e below (T51.setTop (mkF m 61 #[.val (.int p0), .val (.int (1 : Int32)), .val (.int (2 : Int32)), .val (.ref b_41), .val (.ref b_50)] [(.int (own_f_rm3 (2 : Int32) (16 : Int32) (0 : Int32) (2 : Int32)))])) _
      exact retN X51 hx (t := .boolean) Bd.returns (by simp) (hb hby at_61) hr
    · show Q0 Z p0 h0 n0 _ T51.heap _
      rw [e51]
      exact ⟨(congrArg (fun z => some (Value.int z)) (by decide : (nar .boolean (own_f_rm3 (2 : Int32) (16 : Int32) (0 : Int32) (2 : Int32))) = (1 : Int32))), N51⟩
set_option maxRecDepth 65536 in
set_option maxHeartbeats 40000000 in
theorem comes_1 {Post : Tables → Env → Array Value → State → Outcome → State → Prop} (hpost : ∀ tb e args s v u, (limb_1_1.after args s (.returned v) u = true ∧ limb_1_2.after args s (.returned v) u = true ∧ True) → FrameEnd s (.returned v) u (Jvm.fieldLocs frame_1_writes args s ++ Jvm.arrayLocs frame_1_arrays args s ++ Jvm.staticLocs frame_1_statics s) 16 128 → Post tb e args s (.returned v) u) :
    ArmFor flags0 classFile x code maxLocals ret World_1 tables_1 room_1 Calls_1 rest_1 Pre_1 Post := by
  intro l hfl _ _ p e ha hc hk s m args below hf hA hF happ hP
  obtain ⟨hcalls, hrest, hpre⟩ := hP
  obtain ⟨-, -, -, hnamed, -, -, -, hat⟩ := (Spec.applies_iff hf).mp happ
  obtain ⟨hg, hn⟩ := and_e (Cond.before_iff.mp (show (Jvm.Cond.and given_1 narrow_1).before args s = true from hpre))
  obtain ⟨hcount, hg0⟩ := and_e hg
  have hi0 := hg0
  obtain ⟨w0, rfl⟩ : ∃ w0 : Value, args = #[w0] := by
    have hs : args.size = 1 := by simpa [Cond.value, given_1] using hcount
    obtain ⟨L⟩ := args
    match L, hs with
    | [w0], _ => exact ⟨w0, rfl⟩
  have hw := fun d (hd : d ∈ tables_1) => atoms_spec (ws := Jvm.Cond.code x code maxLocals ret :: tables_1) hat d (List.mem_cons_of_mem _ hd)
  have hfit : Fit s := fun {y c} hc i hi => by
    obtain ⟨ha, rfl⟩ := Array.getElem?_eq_some_iff.mp hc
    have q := List.all_eq_true.mp ((Array.all_eq_true_iff_forall_mem.mp hF) _ (Array.getElem_mem ha)) i (List.mem_range.mpr hi)
    simpa [Array.getElem?_eq_getElem hi] using q
  obtain ⟨i0, ei0⟩ := is_v hi0
  obtain rfl : w0 = (.int i0) := Option.some.inj ei0
  obtain ⟨n, o, h1, h2, h3, _, L, rfl, ⟨rfl, N⟩, hq⟩ := rm0 l s _ hw tables_1 i0  s.heap s.heap.size (Nat.le_refl _)  p e ha hc hk s m _ below hf ((Spec.applies_iff_loose hf).mp happ).1 ⟨rfl, State.Warmed39.refl s, rfl⟩ trivial
  refine ⟨n, _, h1, h2, h3, hpost _ _ _ _ _ _ ⟨Cond.after_iff.mpr rfl, Cond.after_iff.mpr (eq_i res_at (Term.int_eval (1)) rfl), trivial⟩ ⟨hq.1, hq.2.1, (hq.2.2.sift fun y hy => Or.inr (N y hy)).mono (by decide) (by decide)⟩⟩
theorem main_1_1 : Claimed_1_1 := comes_1 fun _ _ _ _ _ _ h hF => ⟨h.1, hF⟩
theorem main_1_2 : Claimed_1_2 := comes_1 fun _ _ _ _ _ _ h hF => ⟨h.2.1, hF⟩
end Jvm.Pilot.@@N@@
namespace Jvm.Pilot.@@N@@
open Jvm Jvm.ClassFile Sem Op Lib Jvm.Free Jvm.Stand Jvm.Pilot.@@N@@.Jvm.D
/-! MADE BY PROGRAM (witnessworld.py) out of the Statement's table words and the real class files: 9 classes; the members and pool entries that the words name. The judged class is class 1, her method 1. -/
namespace start1
open Jvm.ClassFile
def u (s : String) : CpInfo := .utf8 (stringToUtf16 s)
/-- a pool by its gaps: so many unusable entries, then the entry; so many at the end -/
def gap : Nat → List CpInfo → List CpInfo
  | 0, r => r
  | n + 1, r => .unusable :: gap n r
def poolList (es : List (Nat × CpInfo)) (last : Nat) : List CpInfo := es.foldr (fun e r => gap e.1 (e.2 :: r)) (gap last [])
def pool (es : List (Nat × CpInfo)) (last : Nat) : Array CpInfo := ⟨poolList es last⟩
def fileOf (pool : Array CpInfo) (this : Nat) (attrs : Array Attribute := #[]) (ms : Array MethodInfo := #[]) (fl : Nat := 33) (sup : Nat := 0) (ifs : Array Nat := #[]) (fds : Array FieldInfo := #[]) : ClassFile where
  minorVersion := 0
  majorVersion := 65
  constantPool := pool
  accessFlags := fl
  thisClass := this
  superClass := sup
  interfaces := ifs
  fields := fds
  methods := ms
  attributes := attrs
def plain (name : String) (sup : Option ClassId) : Class where
  name := name
  kind := .ordinary
  loader := none
  accessFlags := 33
  super := sup
  interfaces := #[]
  cf := none
  fields := #[]
  methods := #[]
  instanceTypes := #[]
  staticTypes := #[]
  resolved := #[]
  callSites := []
  init := .initialized
  statics := none
  mirror := none

def pool0 : Array CpInfo := pool [(5, u "<init>"), (0, u "()V"), (1, .class_ 10), (1, u "java/lang/Object")] 113

def k0m0 : Method := { name := "<init>", desc := "()V", sig := { parameters := [], returnType := none }, accessFlags := 1, code := none }
/-- java/lang/Object -/
def k0 : Class := { plain "java/lang/Object" none with
  accessFlags := 33
  interfaces := #[]
  cf := some (fileOf pool0 8 #[] #[{ accessFlags := 1, nameIndex := 5, descriptorIndex := 6, attributes := #[] }] 33 0 #[] #[])
  fields := #[]
  methods := #[k0m0]
  instanceTypes := #[]
  staticTypes := #[]
  resolved := Array.replicate 124 none
  statics := none }

def pool1 : Array CpInfo := pool [(2, .class_ 4), (1, u "java/lang/Object"), (0, u "<init>"), (0, u "()V"), (0, .methodref 8 9), (0, .class_ 10), (0, .nameAndType 11 12), (0, u "com/example/postbag/postbag/protocol/ContentHeader"), (0, u "deliveryModeProperties"), (0, u "(Z)[B"), (0, .methodref 14 15), (0, .class_ 16), (0, .nameAndType 17 18), (0, u "com/example/postbag/postbag/protocol/ContentHeaderDeliveryModePropertiesPinLaw"), (0, u "exact"), (0, u "([BI)Z"), (2, u "law"), (0, u "(I)Z")] 5

def k1m0 : Method := { name := "<init>", desc := "()V", sig := { parameters := [], returnType := none }, accessFlags := 1, code := none }
def k1c1 : Code := { maxStack := 3, maxLocals := 5, code := code, exceptionTable := #[], attributes := #[] }
def k1m1 : Method := { name := "law", desc := "(I)Z", sig := { parameters := [.int], returnType := some .boolean }, accessFlags := 9, code := some k1c1 }
def k1c2 : Code := { maxStack := 3, maxLocals := 3, code := method_3_code, exceptionTable := #[], attributes := #[] }
def k1m2 : Method := { name := "exact", desc := "([BI)Z", sig := { parameters := [(.array .byte), .int], returnType := some .boolean }, accessFlags := 10, code := some k1c2 }
/-- com/example/postbag/postbag/protocol/ContentHeaderDeliveryModePropertiesPinLaw -/
def k1 : Class := { plain "com/example/postbag/postbag/protocol/ContentHeaderDeliveryModePropertiesPinLaw" (some 0) with
  accessFlags := 49
  interfaces := #[]
  cf := some (fileOf pool1 14 #[] #[{ accessFlags := 1, nameIndex := 5, descriptorIndex := 6, attributes := #[] }, { accessFlags := 9, nameIndex := 21, descriptorIndex := 22, attributes := #[] }, { accessFlags := 10, nameIndex := 17, descriptorIndex := 18, attributes := #[] }] 49 2 #[] #[])
  fields := #[]
  methods := #[k1m0, k1m1, k1m2]
  instanceTypes := #[]
  staticTypes := #[]
  resolved := Array.replicate 28 none
  statics := none }

def pool2 : Array CpInfo := pool [(2, .class_ 4), (1, u "java/lang/Object"), (3, .class_ 10), (1, u "com/example/postbag/postbag/protocol/ContentHeader"), (0, u "classId"), (0, u "I"), (2, u "bodySize"), (0, u "J"), (2, u "properties"), (0, u "[B"), (2, u "persistent"), (0, u "Z"), (49, .methodref 8 75), (0, .nameAndType 76 77), (0, u "flag"), (0, u "(I)I"), (101, u "BASIC_PROPERTY_TYPES"), (0, u "Ljava/lang/String;"), (1, u "HEADERS"), (1, u "DELIVERY_MODE"), (1, u "TRANSIENT"), (1, u "PERSISTENT"), (7, u "deliveryModeProperties"), (0, u "(Z)[B")] 30

def k2c0 : Code := { maxStack := 5, maxLocals := 2, code := prog_25_method_3_code, exceptionTable := #[], attributes := #[] }
def k2m0 : Method := { name := "deliveryModeProperties", desc := "(Z)[B", sig := { parameters := [.boolean], returnType := some (.array .byte) }, accessFlags := 9, code := some k2c0 }
def k2c1 : Code := { maxStack := 3, maxLocals := 1, code := prog_25_method_7_code, exceptionTable := #[], attributes := #[] }
def k2m1 : Method := { name := "flag", desc := "(I)I", sig := { parameters := [.int], returnType := some .int }, accessFlags := 10, code := some k2c1 }
/-- com/example/postbag/postbag/protocol/ContentHeader -/
def k2 : Class := { plain "com/example/postbag/postbag/protocol/ContentHeader" (some 0) with
  accessFlags := 49
  interfaces := #[]
  cf := some (fileOf pool2 8 #[] #[{ accessFlags := 9, nameIndex := 196, descriptorIndex := 197, attributes := #[] }, { accessFlags := 10, nameIndex := 76, descriptorIndex := 77, attributes := #[] }] 49 2 #[] #[{ accessFlags := 24, nameIndex := 179, descriptorIndex := 180, attributes := #[] }, { accessFlags := 26, nameIndex := 182, descriptorIndex := 12, attributes := #[] }, { accessFlags := 26, nameIndex := 184, descriptorIndex := 12, attributes := #[] }, { accessFlags := 26, nameIndex := 186, descriptorIndex := 12, attributes := #[] }, { accessFlags := 26, nameIndex := 188, descriptorIndex := 12, attributes := #[] }, { accessFlags := 18, nameIndex := 11, descriptorIndex := 12, attributes := #[] }, { accessFlags := 18, nameIndex := 15, descriptorIndex := 16, attributes := #[] }, { accessFlags := 18, nameIndex := 19, descriptorIndex := 20, attributes := #[] }, { accessFlags := 18, nameIndex := 23, descriptorIndex := 24, attributes := #[] }])
  fields := #[{ name := "BASIC_PROPERTY_TYPES", type := (.object "java/lang/String"), accessFlags := 24, slot := 0, constantValue := 0 }, { name := "HEADERS", type := .int, accessFlags := 26, slot := 1, constantValue := 0 }, { name := "DELIVERY_MODE", type := .int, accessFlags := 26, slot := 2, constantValue := 0 }, { name := "TRANSIENT", type := .int, accessFlags := 26, slot := 3, constantValue := 0 }, { name := "PERSISTENT", type := .int, accessFlags := 26, slot := 4, constantValue := 0 }, { name := "classId", type := .int, accessFlags := 18, slot := 0, constantValue := 0 }, { name := "bodySize", type := .long, accessFlags := 18, slot := 1, constantValue := 0 }, { name := "properties", type := (.array .byte), accessFlags := 18, slot := 2, constantValue := 0 }, { name := "persistent", type := .boolean, accessFlags := 18, slot := 3, constantValue := 0 }]
  methods := #[k2m0, k2m1]
  instanceTypes := #[.int, .long, (.array .byte), .boolean]
  staticTypes := #[(.object "java/lang/String"), .int, .int, .int, .int]
  resolved := Array.replicate 228 none
  statics := none }

def pool3 : Array CpInfo := pool [(1, u "java/lang/Cloneable"), (0, .class_ 1), (0, u "java/lang/Object"), (0, .class_ 3)] 3

/-- java/lang/Cloneable -/
def k3 : Class := { plain "java/lang/Cloneable" (some 0) with
  accessFlags := 1537
  interfaces := #[]
  cf := some (fileOf pool3 2 #[] #[] 1537 4 #[] #[])
  fields := #[]
  methods := #[]
  instanceTypes := #[]
  staticTypes := #[]
  resolved := Array.replicate 8 none
  statics := none }

def pool4 : Array CpInfo := pool [(1, u "java/io/Serializable"), (0, .class_ 1), (0, u "java/lang/Object"), (0, .class_ 3)] 3

/-- java/io/Serializable -/
def k4 : Class := { plain "java/io/Serializable" (some 0) with
  accessFlags := 1537
  interfaces := #[]
  cf := some (fileOf pool4 2 #[] #[] 1537 4 #[] #[])
  fields := #[]
  methods := #[]
  instanceTypes := #[]
  staticTypes := #[]
  resolved := Array.replicate 8 none
  statics := none }

/-- the primitive byte -/
def k5 : Class := { plain "byte" none with kind := .primitive 'B', accessFlags := 0x411 }
/-- [B -/
def k6 : Class := { plain "[B" (some 0) with kind := .array 5 .byte, interfaces := #[3, 4], accessFlags := 1041 }

/-- the primitive int -/
def k7 : Class := { plain "int" none with kind := .primitive 'I', accessFlags := 0x411 }
/-- [I -/
def k8 : Class := { plain "[I" (some 0) with kind := .array 7 .int, interfaces := #[3, 4], accessFlags := 1041 }

def heap : Heap := #[]
def classes : Array Class := #[k0, k1, k2, k3, k4, k5, k6, k7, k8]
def interned : List (Array UInt16 × Addr) := []
def slotsUsed : Nat := 0
def theMethod : MethodId := ⟨1, 1⟩
def args0 : Array Value := #[.int 5]
def aboutOver (below : List Frame) : State where
  vm := { classes := classes, interned := interned.toArray }
  heap := heap
  slotsUsed := slotsUsed
  threads := #[{ frames := .invoking theMethod args0 :: below }]
def below0 : List Frame := [.native { method := ⟨0, 0⟩, args := #[] }]
def about1 : State := aboutOver below0
def p0 : Program := .bare "" "" ""
def e0 : Env := launch0.env 0 0 0
theorem w_frames : about1.frames = Frame.invoking theMethod args0 :: below0 := rfl
set_option maxRecDepth 65536 in
theorem w_args : argsFit about1.vm theMethod args0 = true := by decide +kernel
set_option maxRecDepth 65536 in
theorem w_heap : heapFits about1 = true := by decide +kernel
set_option maxRecDepth 65536 in
theorem w_runnable : about1.curStatus? = some .runnable := by decide +kernel
set_option maxRecDepth 65536 in
theorem w_alone : about1.alone = true := by decide +kernel
set_option maxRecDepth 65536 in
theorem w_named : about1.methodNamed? x = some theMethod := by decide +kernel
set_option maxRecDepth 65536 in
theorem w_hears : about1.hears theMethod below0 = true := by decide +kernel
set_option maxRecDepth 65536 in
theorem w_ripe : about1.ripe theMethod args0 below0 = true := by decide +kernel
theorem w_running : about1.status = .running := rfl
set_option maxRecDepth 65536 in
theorem w_room : about1.hasRoom e0.platform room_1 = true :=
  launch0.hasRoom_least _ room_1 (by decide +kernel) (by decide +kernel) (by decide +kernel) (by decide +kernel) (by decide +kernel) (by decide +kernel)
theorem allAtoms_all (ts : List Jvm.Cond) (a : Array Jvm.Value) (st : Jvm.State) : (allAtoms ts).before a st = ts.all (fun c => c.before a st) := by
  induction ts with
  | nil => rfl
  | cons c t ih =>
    show (Jvm.Cond.and c (allAtoms t)).before a st = _
    rw [Jvm.Cond.before_and, ih, List.all_cons]
def words1 : List Jvm.Cond := Jvm.Cond.code x code maxLocals ret :: tables_1
/-- a 'code' word, met by the world's own term for the bytes: nothing is compared byte by byte -/
theorem code_word {y : MethodName} {bytes : ByteArray} {mx : Nat} {rt : Option FieldType} {a : Array Value} {s : State} {m : MethodId} {meth : Method} {c : Code} (h1 : s.methodNamed? y = some m) (h2 : s.vm.method? m = some meth) (h3 : meth.code = some c) (h4 : c.code = bytes)
    (h5 : (c.maxLocals == mx && c.exceptionTable.isEmpty && decide (c.maxStack ≤ mostOperands) && decide (meth.sig.returnType = rt) && !meth.locks && decide (parseMethodDescriptor y.desc = some meth.sig)) = true) : (Jvm.Cond.code y bytes mx rt).before a s = true := by
  simp only [Bool.and_eq_true, beq_iff_eq, Bool.not_eq_true', decide_eq_true_eq] at h5
  obtain ⟨⟨⟨⟨⟨g1, g2⟩, g3⟩, g4⟩, g5⟩, g6⟩ := h5
  simp [Cond.before, Cond.holds, Cond.value, h1, h2, h3, h4, g1, g2, g3, g4, g5, g6]
def isCode : Jvm.Cond → Bool
  | .code _ _ _ _ => true
  | _ => false
theorem all_split {L : List Jvm.Cond} {P : Jvm.Cond → Bool} (h1 : L.all (fun c => isCode c || P c) = true) (h2 : ∀ c ∈ L.filter isCode, P c = true) : L.all P = true := by
  refine List.all_eq_true.mpr fun c hc => ?_
  have h := List.all_eq_true.mp h1 c hc
  rcases Bool.eq_false_or_eq_true (isCode c) with hi | hi
  · exact h2 c (List.mem_filter.mpr ⟨hc, hi⟩)
  · simpa [hi] using h
set_option maxRecDepth 65536 in
theorem w_c0 : (Jvm.Cond.code x code maxLocals ret).before args0 about1 = true := code_word (m := ⟨1, 1⟩) (meth := k1m1) (c := k1c1) (by decide +kernel) rfl rfl rfl (by decide +kernel)
set_option maxRecDepth 65536 in
theorem w_c1 : (Jvm.Cond.code ({ cls := "com/example/postbag/postbag/protocol/ContentHeader", name := "deliveryModeProperties", desc := "(Z)[B" } : Jvm.MethodName) prog_25_method_3_code (2 : Nat) (Option.some (Jvm.ClassFile.FieldType.array Jvm.ClassFile.FieldType.byte))).before args0 about1 = true := code_word (m := ⟨2, 0⟩) (meth := k2m0) (c := k2c0) (by decide +kernel) rfl rfl rfl (by decide +kernel)
set_option maxRecDepth 65536 in
theorem w_c2 : (Jvm.Cond.code ({ cls := "com/example/postbag/postbag/protocol/ContentHeader", name := "flag", desc := "(I)I" } : Jvm.MethodName) prog_25_method_7_code (1 : Nat) (Option.some Jvm.ClassFile.FieldType.int)).before args0 about1 = true := code_word (m := ⟨2, 1⟩) (meth := k2m1) (c := k2c1) (by decide +kernel) rfl rfl rfl (by decide +kernel)
set_option maxRecDepth 65536 in
theorem w_c3 : (Jvm.Cond.code ({ cls := "com/example/postbag/postbag/protocol/ContentHeaderDeliveryModePropertiesPinLaw", name := "exact", desc := "([BI)Z" } : Jvm.MethodName) method_3_code (3 : Nat) (Option.some Jvm.ClassFile.FieldType.boolean)).before args0 about1 = true := code_word (m := ⟨1, 2⟩) (meth := k1m2) (c := k1c2) (by decide +kernel) rfl rfl rfl (by decide +kernel)
def codes1 : List Jvm.Cond := [Jvm.Cond.code x code maxLocals ret, Jvm.Cond.code ({ cls := "com/example/postbag/postbag/protocol/ContentHeader", name := "deliveryModeProperties", desc := "(Z)[B" } : Jvm.MethodName) prog_25_method_3_code (2 : Nat) (Option.some (Jvm.ClassFile.FieldType.array Jvm.ClassFile.FieldType.byte)), Jvm.Cond.code ({ cls := "com/example/postbag/postbag/protocol/ContentHeader", name := "flag", desc := "(I)I" } : Jvm.MethodName) prog_25_method_7_code (1 : Nat) (Option.some Jvm.ClassFile.FieldType.int), Jvm.Cond.code ({ cls := "com/example/postbag/postbag/protocol/ContentHeaderDeliveryModePropertiesPinLaw", name := "exact", desc := "([BI)Z" } : Jvm.MethodName) method_3_code (3 : Nat) (Option.some Jvm.ClassFile.FieldType.boolean)]
set_option maxRecDepth 65536 in
theorem codes_eq : words1.filter isCode = codes1 := rfl
theorem w_codes : ∀ c ∈ words1.filter isCode, c.before args0 about1 = true := by
  rw [codes_eq]
  intro c hc
  simp only [codes1, List.mem_cons, List.not_mem_nil, or_false] at hc
  rcases hc with rfl | rfl | rfl | rfl
  · exact w_c0
  · exact w_c1
  · exact w_c2
  · exact w_c3
set_option maxRecDepth 65536 in
theorem w_t1 : words1.all (fun c => isCode c || c.before args0 about1) = true := by decide +kernel
theorem w_tables : (allAtoms (Jvm.Cond.code x code maxLocals ret :: tables_1)).before args0 about1 = true := by
  rw [allAtoms_all]
  show words1.all (fun c => c.before args0 about1) = true
  refine all_split ?_ w_codes
  rw [w_t1]
set_option maxRecDepth 65536 in
theorem w_case : (Jvm.Cond.and given_1 narrow_1).before args0 about1 = true := by decide +kernel
theorem w_applies : (headSpec (Jvm.Cond.code x code maxLocals ret :: tables_1) room_1).applies x e0.platform about1 = true :=
  (Spec.applies_iff w_frames).mpr ⟨w_running, w_runnable, w_alone, w_named, w_hears, w_ripe, w_room, w_tables⟩
theorem atStart : AtStart classFile x code maxLocals ret World_1 tables_1 room_1 Calls_1 rest_1 Pre_1 launch0 p0 e0 about1 theMethod args0 below0 :=
  ⟨lists_1, trivial, launch0.admits_env _ _ _, launch0.least_env, fairChoices_fair.cas, fairChoices_fair.clock, w_frames, w_args, w_heap, w_applies, trivial, trivial, w_case⟩
end start1
theorem witness_1 : WitnessClaimed_1 := ⟨start1.p0, start1.e0, start1.about1, start1.theMethod, start1.args0, start1.below0, start1.atStart⟩
end Jvm.Pilot.@@N@@
