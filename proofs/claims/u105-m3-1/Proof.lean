import JvmDerived
import JvmDerived.Pilot.@@N@@Statement
import JvmDerived.Pilot.@@N@@Code
set_option linter.unusedVariables false
set_option linter.unusedSimpArgs false
namespace Jvm.RoadKit
open Sem ClassFile Op Lib Jvm.Stand Jvm.Free Jvm.LawKit
section New
variable {p : Program} {l : Launch} {e : Env} {R : Room} {s : State} {m : MethodId} {args : Array Value} {below : List Frame} {meth : Method} {c : Code} {T : State} {locs : List Loc} {cells slots : Nat}
theorem retI (X : Stand p l e R s m args below meth c T locs cells slots) (hx : p.tables.exec = Jvm.exec) {pc : Nat} {Ls : Array Slot} {z : Int32} {rest : List Value} (hret : meth.sig.returnType = some .int) (hd : decode c.code pc = .ok (.ireturn, 1)) {fs : List Frame}
    (hl : ∀ (f : JFrame) (acts : List Action), f.method = m → f.locked = none → f.entered = [] → (doReturn e (T.setTop f) acts (some (.int z))).1 = T.setFrames fs) : Steps p.tables e below (T.setTop (mkF m pc Ls (.int z :: rest))) (T.setFrames fs) := by
  have hm' : T.vm.method? m = some meth := X.method'
  have hn : narrow .int (.int z) = .int z := rfl
  show Steps p.tables e below (T.setTop { method := m, pc := pc, locals := Ls, stack := _ :: rest, locked := none }) _
  jvm_step X.here [X.here.top, hx, hd, hm', hret, hn]
  first | (intro acts; rw [hl _ acts rfl rfl rfl]) | rw [hl _ _ rfl rfl rfl]
  exact Steps.refl _
end New
end Jvm.RoadKit
namespace Jvm.Pilot.@@N@@
open Jvm Jvm.ClassFile Sem Op Lib Jvm.Free Jvm.Stand Jvm.LawKit Jvm.RoadKit Bundle Jvm.Pilot.@@N@@.Jvm.D
theorem own_arrKeep {Z : State} {h h' : Heap} {a : Addr} {c : Cell} {ty : FieldType} {ws : List Addr} (A : Arr Z h a c ty) (K : Keep h h' ws) (q : a ∉ ws) : Arr Z h' a c ty := ⟨K.2.1 _ _ A.1 q, A.2⟩
theorem own_exaPlain {Z : State} {h : Heap} {a : Addr} {C : String} (E : Exa Z h a C) : ∀ c : Cell, h[a]? = some c → c.vm.isStatics = false := fun c hc => by
  obtain ⟨cell, k, h1, -, -, h4, -⟩ := E
  cases h1.symm.trans hc
  exact h4
theorem own_staKeep {Z : State} {h h' : Heap} {C n d : String} {v : Value} {ws : List Addr} (F : Sta Z h C n d v) (K : Keep h h' ws) (q : ∀ x ∈ ws, ∀ c : Cell, h[x]? = some c → c.vm.isStatics = false) : Sta Z h' C n d v := by
  obtain ⟨cf, i, k, f, st, cell, h1, h2, h3, h4, h5, h6, h7⟩ := F
  refine ⟨cf, i, k, f, st, cell, h1, h2, h3, h4, K.2.1 _ _ h5 fun m => ?_, h6, h7⟩
  rw [q st m cell h5] at h6
  cases h6
theorem own_cs {args : Array Value} {s : State} {t : Term} {w : Int32} (ev : t.eval args s none [] s = some (.int w)) (h : (Cond.not (Cond.eq t (Term.int (0 : Int32)))).value args s none s [] = some true) : ¬ (w = (0 : Int32)) := fun q => by
  have e : (Cond.eq t (Term.int (0 : Int32))).value args s none s [] = some (decide (w = (0 : Int32))) := Cond.eq_ints ev (Term.int_eval (0 : Int32))
  simp [Cond.value] at h
  simp [Cond.value] at e
  subst q
  simp_all
def own_EL : List (String × Nat) := [("java/lang/String", 7)]
theorem own_mem : ("java/lang/String", 7) ∈ own_EL := List.mem_cons_self
theorem own_endW {s t : State} {L : List Loc} {k n kX : Nat} {vmX : Vm} {v : Option Value} (hS : s.Since vmX kX) (hk : kX ≤ t.heap.size) (hW : (s.setVm vmX).WarmedH t.vm) (hsame : (s.setVm vmX).sameButNew ({ t with vm := (s.setVm vmX).vm } : State) L k n) : ReturnedEndW s (.returned v) t L k n :=
  have q := hS.trans (hW.since t.heap.size) hk
  ⟨⟨v, rfl⟩, q.1, q.2, hsame.setVm s.vm⟩
theorem own_safeNull {Z : State} {h : Heap} {EL : List (String × Nat)} {vm : Vm} {a : Addr} {a0 : Array Value} {n : Nat} (hZ : Z.Warmed39 vm) (wi : (Cond.instantiable "java/lang/String" n).before a0 Z = true) (E : Exa Z h a "java/lang/String") (F : Fld Z h a "java/lang/String" "value" "[B" .null) : Safe Z EL vm h a := fun B => by
  have hal := hZ.alike
  obtain ⟨p, hp, u, a', hb, q, hqa, S, hy⟩ := B
  obtain ⟨cS, ⟨⟨s1, s2, s3, ⟨cv, kv, iv, s4, s4'⟩, -, s6, -, s8, -, s10, s11, s12, -⟩, -, -⟩, -⟩ := S
  obtain ⟨kv', z4⟩ := Jvm.RoadKit.ff_back (U := Wst Z vm h) hal s4
  rcases hy with rfl | rfl
  · exact Fld.ne F (⟨q.sC, cv, kv', iv, q.fSV, s1, z4, s6, s2, s3, by rw [← hal.assignable]; exact s4', s8⟩ : Fld Z h q.sa "java/lang/String" "value" "[B" (.ref q.sd)) (by simp) rfl
  · obtain ⟨hst, k9, hk9, comp, hkind9⟩ := s11
    obtain ⟨cell, k1, e1, e2, e3, -⟩ := E
    obtain ⟨c2, k2, i1, i2, i3, -⟩ := Cond.instantiable_spec wi
    cases e2.symm.trans i1
    cases e3.symm.trans i2
    have s10' : h[q.sd]? = some q.SA := s10
    cases e1.symm.trans s10'
    obtain ⟨k', q1, q2⟩ := hal.2.2 _ _ e3
    have hk9' : vm.classes[q.SA.cls]? = some k9 := hk9
    cases q1.symm.trans hk9'
    rw [q2] at hkind9
    rw [show ({ k1 with resolved := _, callSites := _, nestHost := _ } : Class).kind = k1.kind from rfl] at hkind9
    rw [i3] at hkind9; cases hkind9
def own_Str (Z : State) (h : Heap) (a : Addr) (L : List Int32) : Prop := Exa Z h a "java/lang/String" ∧ Fld Z h a "java/lang/String" "coder" "B" (.int (0 : Int32)) ∧ ∃ (b : Addr) (k : ClassId), Fld Z h a "java/lang/String" "value" "[B" (.ref b) ∧ Arv Z h b k .byte (Int32.ofNat L.length) (L.map Value.int) (.int (0 : Int32))
theorem own_Str.lt {Z : State} {h : Heap} {a : Addr} {L : List Int32} (F : own_Str Z h a L) : a < h.size := F.1.lt
theorem own_Str.ext {Z : State} {h h' : Heap} {a : Addr} {L : List Int32} (F : own_Str Z h a L) (E : Ext h h') : own_Str Z h' a L := by
  obtain ⟨f1, f2, b, k, f3, f4⟩ := F
  exact ⟨f1.ext E, f2.ext E, b, k, f3.ext E, f4.ext E⟩
theorem own_Str.keep0 {Z : State} {h h' : Heap} {a : Addr} {L : List Int32} (F : own_Str Z h a L) (K : Keep h h' []) : own_Str Z h' a L := by
  obtain ⟨f1, f2, b, k, f3, f4⟩ := F
  exact ⟨f1.keep K, f2.keep K nin0, b, k, f3.keep K nin0, f4.keep K nin0⟩
theorem own_Str.keep1 {Z : State} {h h' : Heap} {a x : Addr} {L : List Int32} {C : String} {a0 : Array Value} {n : Nat} (F : own_Str Z h a L) (K : Keep h h' [x]) (E : Exa Z h x C) (wi : (Cond.instantiable C n).before a0 Z = true) (hn : C ≠ "java/lang/String") : own_Str Z h' a L := by
  obtain ⟨f1, f2, b, k, f3, f4⟩ := F
  have n1 : a ≠ x := fun q => (ne_exa E f1 hn) q.symm
  have n2 : b ≠ x := fun q => (Exa.neArv E f4 wi) q.symm
  exact ⟨f1.keep K, f2.keep K (ninS n1 nin0), b, k, f3.keep K (ninS n1 nin0), f4.keep K (ninS n2 nin0)⟩
theorem own_wS {Z : State} {a0 : Array Value} (hw : ∀ d ∈ tables_1, d.before a0 Z = true) : ∀ a ∈ Bundle.stringAtoms, a.before a0 Z = true := fun d hd => by
  simp only [Bundle.stringAtoms, List.mem_cons, List.not_mem_nil, or_false] at hd
  rcases hd with rfl | rfl | rfl | rfl | rfl | rfl | rfl
  · exact (hw _ (List.mem_of_getElem? (i := 9) rfl))
  · exact (hw _ (List.mem_of_getElem? (i := 8) rfl))
  · exact (hw _ (List.mem_of_getElem? (i := 22) rfl))
  · exact (hw _ (List.mem_of_getElem? (i := 23) rfl))
  · exact (hw _ (List.mem_of_getElem? (i := 24) rfl))
  · exact (hw _ (List.mem_of_getElem? (i := 25) rfl))
  · exact (hw _ (List.mem_of_getElem? (i := 26) rfl))
theorem own_hEL {Z : State} {a0 : Array Value} (hw : ∀ d ∈ tables_1, d.before a0 Z = true) : EW Z a0 own_EL := (EW.cons (text := "") (hw _ (List.mem_of_getElem? (i := 21) rfl)) (by simp) EW.nil)

theorem own_d11_0 : decode jdk_52_method_21_code 0 = .ok (.iconst 0, 1) := by decide +kernel
theorem own_d11_1 : decode jdk_52_method_21_code 1 = .ok (.istore 5, 2) := by decide +kernel
theorem own_d11_3 : decode jdk_52_method_21_code 3 = .ok (.iload 5, 2) := by decide +kernel
theorem own_d11_5 : decode jdk_52_method_21_code 5 = .ok (.iload 4, 2) := by decide +kernel
theorem own_d11_7 : decode jdk_52_method_21_code 7 = .ok (.if_icmp .ge 37, 3) := by decide +kernel
theorem own_d11_10 : decode jdk_52_method_21_code 10 = .ok (.aload_n 0, 1) := by decide +kernel
theorem own_d11_11 : decode jdk_52_method_21_code 11 = .ok (.iload_n 1, 1) := by decide +kernel
theorem own_d11_12 : decode jdk_52_method_21_code 12 = .ok (.caload, 1) := by decide +kernel
theorem own_d11_13 : decode jdk_52_method_21_code 13 = .ok (.istore 6, 2) := by decide +kernel
theorem own_d11_15 : decode jdk_52_method_21_code 15 = .ok (.iload 6, 2) := by decide +kernel
theorem own_d11_17 : decode jdk_52_method_21_code 17 = .ok (.sipush 255, 3) := by decide +kernel
theorem own_d11_20 : decode jdk_52_method_21_code 20 = .ok (.if_icmp .le 6, 3) := by decide +kernel
theorem own_d11_26 : decode jdk_52_method_21_code 26 = .ok (.aload_n 2, 1) := by decide +kernel
theorem own_d11_27 : decode jdk_52_method_21_code 27 = .ok (.iload_n 3, 1) := by decide +kernel
theorem own_d11_28 : decode jdk_52_method_21_code 28 = .ok (.iload 6, 2) := by decide +kernel
theorem own_d11_30 : decode jdk_52_method_21_code 30 = .ok (.i2b, 1) := by decide +kernel
theorem own_d11_31 : decode jdk_52_method_21_code 31 = .ok (.bastore, 1) := by decide +kernel
theorem own_d11_32 : decode jdk_52_method_21_code 32 = .ok (.iinc 1 1, 3) := by decide +kernel
theorem own_d11_35 : decode jdk_52_method_21_code 35 = .ok (.iinc 3 1, 3) := by decide +kernel
theorem own_d11_38 : decode jdk_52_method_21_code 38 = .ok (.iinc 5 1, 3) := by decide +kernel
theorem own_d11_41 : decode jdk_52_method_21_code 41 = .ok (.goto (-38), 3) := by decide +kernel
theorem own_d11_44 : decode jdk_52_method_21_code 44 = .ok (.iload 4, 2) := by decide +kernel
theorem own_d11_46 : decode jdk_52_method_21_code 46 = .ok (.ireturn, 1) := by decide +kernel
theorem own_pn0 : plainName "java/lang/StringUTF16" = true := by first | (simp [plainName, overriddenIn]; done) | decide +kernel
theorem own_ef_rmC5_1 (m : MethodId) (a1 : Addr) (a3 : Addr) : entryFrame m #[(.ref a1), (.int (0 : Int32)), (.ref a3), (.int (0 : Int32)), (.int (1 : Int32))] 7 = mkF m 0 #[.val (.ref a1), .val (.int (0 : Int32)), .val (.ref a3), .val (.int (0 : Int32)), .val (.int (1 : Int32)), .unset, .unset] [] := by first | (simp [entryFrame, mkF, argsToLocals, Value.category]; done) | rfl
def QC5_1 (Z : State) (a1 : Addr) (a3 : Addr) (k1 : ClassId) (k3 : ClassId) (v0 : Int32) (h0 : Heap) (n0 : Nat) (v : Option Value) (h : Heap) (L : List Loc) : Prop := v = some (.int (1 : Int32)) ∧ Fr n0 L ∧ Keep h0 h [a3] ∧ Arv Z h a3 k3 .byte (1 : Int32) [(.int (nar .byte (v0.toInt8.toInt32)))] (.int (0 : Int32))
set_option maxRecDepth 65536 in
set_option maxHeartbeats 40000000 in
theorem rmC5_1 (l : Launch) (Z : State) (a0 : Array Value) (hw : ∀ d ∈ tables_1, d.before a0 Z = true) (ws : List Jvm.Cond) (a1 : Addr) (a3 : Addr) (k1 : ClassId) (k3 : ClassId) (v0 : Int32) (h0 : Heap) (n0 : Nat) (Z0 : n0 ≤ h0.size) (V_a1 : Arv Z h0 a1 k1 .char (1 : Int32) [(.int v0)] (.int (0 : Int32))) (V_a3 : Arv Z h0 a3 k3 .byte (1 : Int32) [(.int (0 : Int32))] (.int (0 : Int32))) (gg_a3 : n0 ≤ a3) (ne_a1_a3 : a1 ≠ a3) (hle_v0 : ¬ ((255 : Int32) < v0)) :
    MetFree l (⟨"java/lang/StringUTF16", "compress", "([CI[BII)I"⟩ : MethodName) (head1 (Jvm.Cond.code (⟨"java/lang/StringUTF16", "compress", "([CI[BII)I"⟩ : MethodName) jdk_52_method_21_code 7 (some .int) :: ws) ({ frames := 0, cells := 0, slots := 0, locals := 0 } : Room)) (fun a U => a = #[(.ref a1), (.int (0 : Int32)), (.ref a3), (.int (0 : Int32)), (.int (1 : Int32))] ∧ Z.Warmed39 U.vm ∧ U.heap = h0) (fun _ _ _ _ _ => True) (fun _ U o U' => ∃ v L, o = .returned v ∧ QC5_1 Z a1 a3 k1 k3 v0 h0 n0 v U'.heap L ∧ FrameEnd U o U' L ({ frames := 0, cells := 0, slots := 0, locals := 0 } : Room).cells ({ frames := 0, cells := 0, slots := 0, locals := 0 } : Room).slots) := by
  refine MetFree.of_bodySF (plainFor_of_name own_pn0) hisR ?_
  intro p e s m args below meth c s₁ Bd hml0 hP hK
  obtain ⟨rfl, hZ, hh⟩ := hP
  have hx := Bd.exec
  have hby := Bd.bytes
  have hml : c.maxLocals = 7 := hml0
  have hown : s.vm.findClass "java/lang/StringUTF16" = some m.cls := findClass_of_methodNamed Bd.named
  have hnm := (name_of_methodNamed Bd.named Bd.method).1
  have X0 : Stand p l e ({ frames := 0, cells := 0, slots := 0, locals := 0 } : Room) s m #[(.ref a1), (.int (0 : Int32)), (.ref a3), (.int (0 : Int32)), (.int (1 : Int32))] below meth c s₁ [] 0 0 := Stand.of_body Bd
  have e0 : s₁.heap = h0 := by rw [← hh, Bd.state]; rfl
  have N0 := Fr.nil n0
  have K0 : Keep h0 h0 [a3] := Keep.refl h0 _
  have pre0 : ∀ t, Steps p.tables e below (s₁.setTop (mkF m 0 #[.val (.ref a1), .val (.int (0 : Int32)), .val (.ref a3), .val (.int (0 : Int32)), .val (.int (1 : Int32)), .unset, .unset] [])) t → Steps p.tables e below (s₁.setTop (entryFrame m #[(.ref a1), (.int (0 : Int32)), (.ref a3), (.int (0 : Int32)), (.int (1 : Int32))] 7)) t := fun t k => castTop (own_ef_rmC5_1 m a1 a3) k
  obtain ⟨cl1, Ar1, q1, S1, M1, H1, G1⟩ := id V_a1
  have hin1 : ¬ ((0 : Int32) < 0 ∨ cl1.slots.size ≤ ((0 : Int32)).toNatClampNeg) := inb_of S1 ⟨by decide, by decide⟩
  have hat1 : cl1.slots[((0 : Int32)).toNatClampNeg]? = some (.int v0) := Has.at H1 hin1 rfl
  have hc20_2 : ¬ ((255 : Int32) < v0) := hle_v0
  obtain ⟨cl3, Ar3, q3, S3, M3, H3, G3⟩ := id V_a3
  have hin3 : ¬ ((0 : Int32) < 0 ∨ cl3.slots.size ≤ ((0 : Int32)).toNatClampNeg) := inb_of S3 ⟨by decide, by decide⟩
  obtain ⟨T4, h4, X4, e4, W4, st4⟩ := stB X0 hx hZ e0 Ar3 (j := (0 : Int32)) hin3 (g := (mkF m 31 #[.val (.ref a1), .val (.int (0 : Int32)), .val (.ref a3), .val (.int (0 : Int32)), .val (.int (1 : Int32)), .val (.int (0 : Int32)), .val (.int v0)] [(.int (v0.toInt8.toInt32)), (.int (0 : Int32)), (.ref a3)])) rfl rfl (hb hby own_d11_31)
  have V4 : Arv Z h4 a3 k3 .byte (1 : Int32) [(.int (nar .byte (v0.toInt8.toInt32)))] (.int (0 : Int32)) := Arv.set Ar3 q3 S3 M3 H3 G3 (fits_nar_byte _) W4 0 rfl (Nat.le_of_ble_eq_true rfl)
  have K4 := K0.wr W4 (Or.inl (List.mem_of_getElem? (i := 0) rfl))
  have N4 := Fr.snoc X4 N0 gg_a3
  obtain ⟨fs, hr, hrun, hended, hW, hsame⟩ := X4.leave (v := some (.int (1 : Int32))) (fun h => by rw [Bd.returns] at h; cases h)
  refine ⟨_, _, pre0 _ ?_, hrun, hended, _, _, rfl, ?_, ⟨_, rfl⟩, hW, hsame.mono (by decide) (by decide)⟩
  · show Steps p.tables e below (s₁.setTop (mkF m 0 #[.val (.ref a1), .val (.int (0 : Int32)), .val (.ref a3), .val (.int (0 : Int32)), .val (.int (1 : Int32)), .unset, .unset] [])) _
    refine XS.iconst X0.here hx rfl (hb hby own_d11_0) ?_
    show Steps p.tables e below (s₁.setTop (mkF m 1 #[.val (.ref a1), .val (.int (0 : Int32)), .val (.ref a3), .val (.int (0 : Int32)), .val (.int (1 : Int32)), .unset, .unset] [(.int (0 : Int32))])) _
    refine XS.istore X0.here hx rfl (hb hby own_d11_1) rfl (l' := #[.val (.ref a1), .val (.int (0 : Int32)), .val (.ref a3), .val (.int (0 : Int32)), .val (.int (1 : Int32)), .val (.int (0 : Int32)), .unset]) rfl ?_
    show Steps p.tables e below (s₁.setTop (mkF m 3 #[.val (.ref a1), .val (.int (0 : Int32)), .val (.ref a3), .val (.int (0 : Int32)), .val (.int (1 : Int32)), .val (.int (0 : Int32)), .unset] [])) _
    refine XS.iload X0.here hx rfl (hb hby own_d11_3) rfl ?_
    show Steps p.tables e below (s₁.setTop (mkF m 5 #[.val (.ref a1), .val (.int (0 : Int32)), .val (.ref a3), .val (.int (0 : Int32)), .val (.int (1 : Int32)), .val (.int (0 : Int32)), .unset] [(.int (0 : Int32))])) _
    refine XS.iload X0.here hx rfl (hb hby own_d11_5) rfl ?_
    show Steps p.tables e below (s₁.setTop (mkF m 7 #[.val (.ref a1), .val (.int (0 : Int32)), .val (.ref a3), .val (.int (0 : Int32)), .val (.int (1 : Int32)), .val (.int (0 : Int32)), .unset] [(.int (1 : Int32)), (.int (0 : Int32))])) _
    refine XS.icmpNo X0.here hx rfl (hb hby own_d11_7) rfl (tlt (by decide : ((0 : Int32) < (1 : Int32)))).2.1 ?_
    show Steps p.tables e below (s₁.setTop (mkF m 10 #[.val (.ref a1), .val (.int (0 : Int32)), .val (.ref a3), .val (.int (0 : Int32)), .val (.int (1 : Int32)), .val (.int (0 : Int32)), .unset] [])) _
    refine XS.aloadN X0.here hx rfl (hb hby own_d11_10) rfl rfl ?_
    show Steps p.tables e below (s₁.setTop (mkF m 11 #[.val (.ref a1), .val (.int (0 : Int32)), .val (.ref a3), .val (.int (0 : Int32)), .val (.int (1 : Int32)), .val (.int (0 : Int32)), .unset] [(.ref a1)])) _
    refine XS.iloadN X0.here hx rfl (hb hby own_d11_11) rfl ?_
    show Steps p.tables e below (s₁.setTop (mkF m 12 #[.val (.ref a1), .val (.int (0 : Int32)), .val (.ref a3), .val (.int (0 : Int32)), .val (.int (1 : Int32)), .val (.int (0 : Int32)), .unset] [(.int (0 : Int32)), (.ref a1)])) _
    refine X0.caload hx (j := (0 : Int32)) (v := (.int v0)) (by rw [e0]; exact Ar1.1) (State.isArrayOf_alike hZ.alike Ar1.2.1) Ar1.2.2 hin1 hat1 (g := (mkF m 12 #[.val (.ref a1), .val (.int (0 : Int32)), .val (.ref a3), .val (.int (0 : Int32)), .val (.int (1 : Int32)), .val (.int (0 : Int32)), .unset] [(.int (0 : Int32)), (.ref a1)])) rfl rfl (hb hby own_d11_12) _ ?_
    show Steps p.tables e below (s₁.setTop (mkF m 13 #[.val (.ref a1), .val (.int (0 : Int32)), .val (.ref a3), .val (.int (0 : Int32)), .val (.int (1 : Int32)), .val (.int (0 : Int32)), .unset] [(.int v0)])) _
    refine XS.istore X0.here hx rfl (hb hby own_d11_13) rfl (l' := #[.val (.ref a1), .val (.int (0 : Int32)), .val (.ref a3), .val (.int (0 : Int32)), .val (.int (1 : Int32)), .val (.int (0 : Int32)), .val (.int v0)]) rfl ?_
    show Steps p.tables e below (s₁.setTop (mkF m 15 #[.val (.ref a1), .val (.int (0 : Int32)), .val (.ref a3), .val (.int (0 : Int32)), .val (.int (1 : Int32)), .val (.int (0 : Int32)), .val (.int v0)] [])) _
    refine XS.iload X0.here hx rfl (hb hby own_d11_15) rfl ?_
    show Steps p.tables e below (s₁.setTop (mkF m 17 #[.val (.ref a1), .val (.int (0 : Int32)), .val (.ref a3), .val (.int (0 : Int32)), .val (.int (1 : Int32)), .val (.int (0 : Int32)), .val (.int v0)] [(.int v0)])) _
    refine XS.sipush X0.here hx rfl (hb hby own_d11_17) ?_
    show Steps p.tables e below (s₁.setTop (mkF m 20 #[.val (.ref a1), .val (.int (0 : Int32)), .val (.ref a3), .val (.int (0 : Int32)), .val (.int (1 : Int32)), .val (.int (0 : Int32)), .val (.int v0)] [(.int (255 : Int32)), (.int v0)])) _
    refine XS.icmpYes X0.here hx rfl (pc0 := 20) (pc' := 26) rfl (hb hby own_d11_20) rfl (flt hc20_2).2.2.2 (by decide) (by decide) ?_
    show Steps p.tables e below (s₁.setTop (mkF m 26 #[.val (.ref a1), .val (.int (0 : Int32)), .val (.ref a3), .val (.int (0 : Int32)), .val (.int (1 : Int32)), .val (.int (0 : Int32)), .val (.int v0)] [])) _
    refine XS.aloadN X0.here hx rfl (hb hby own_d11_26) rfl rfl ?_
    show Steps p.tables e below (s₁.setTop (mkF m 27 #[.val (.ref a1), .val (.int (0 : Int32)), .val (.ref a3), .val (.int (0 : Int32)), .val (.int (1 : Int32)), .val (.int (0 : Int32)), .val (.int v0)] [(.ref a3)])) _
    refine XS.iloadN X0.here hx rfl (hb hby own_d11_27) rfl ?_
    show Steps p.tables e below (s₁.setTop (mkF m 28 #[.val (.ref a1), .val (.int (0 : Int32)), .val (.ref a3), .val (.int (0 : Int32)), .val (.int (1 : Int32)), .val (.int (0 : Int32)), .val (.int v0)] [(.int (0 : Int32)), (.ref a3)])) _
    refine XS.iload X0.here hx rfl (hb hby own_d11_28) rfl ?_
    show Steps p.tables e below (s₁.setTop (mkF m 30 #[.val (.ref a1), .val (.int (0 : Int32)), .val (.ref a3), .val (.int (0 : Int32)), .val (.int (1 : Int32)), .val (.int (0 : Int32)), .val (.int v0)] [(.int v0), (.int (0 : Int32)), (.ref a3)])) _
    refine XS.i2b X0.here hx rfl (hb hby own_d11_30) rfl ?_
    show Steps p.tables e below (s₁.setTop (mkF m 31 #[.val (.ref a1), .val (.int (0 : Int32)), .val (.ref a3), .val (.int (0 : Int32)), .val (.int (1 : Int32)), .val (.int (0 : Int32)), .val (.int v0)] [(.int (v0.toInt8.toInt32)), (.int (0 : Int32)), (.ref a3)])) _
    refine st4 _ ?_
    show Steps p.tables e below (T4.setTop (mkF m 32 #[.val (.ref a1), .val (.int (0 : Int32)), .val (.ref a3), .val (.int (0 : Int32)), .val (.int (1 : Int32)), .val (.int (0 : Int32)), .val (.int v0)] [])) _
    refine XS.iinc X4.here hx rfl (hb hby own_d11_32) rfl (l' := #[.val (.ref a1), .val (.int (1 : Int32)), .val (.ref a3), .val (.int (0 : Int32)), .val (.int (1 : Int32)), .val (.int (0 : Int32)), .val (.int v0)]) rfl ?_
    show Steps p.tables e below (T4.setTop (mkF m 35 #[.val (.ref a1), .val (.int (1 : Int32)), .val (.ref a3), .val (.int (0 : Int32)), .val (.int (1 : Int32)), .val (.int (0 : Int32)), .val (.int v0)] [])) _
    refine XS.iinc X4.here hx rfl (hb hby own_d11_35) rfl (l' := #[.val (.ref a1), .val (.int (1 : Int32)), .val (.ref a3), .val (.int (1 : Int32)), .val (.int (1 : Int32)), .val (.int (0 : Int32)), .val (.int v0)]) rfl ?_
    show Steps p.tables e below (T4.setTop (mkF m 38 #[.val (.ref a1), .val (.int (1 : Int32)), .val (.ref a3), .val (.int (1 : Int32)), .val (.int (1 : Int32)), .val (.int (0 : Int32)), .val (.int v0)] [])) _
    refine XS.iinc X4.here hx rfl (hb hby own_d11_38) rfl (l' := #[.val (.ref a1), .val (.int (1 : Int32)), .val (.ref a3), .val (.int (1 : Int32)), .val (.int (1 : Int32)), .val (.int (1 : Int32)), .val (.int v0)]) rfl ?_
    show Steps p.tables e below (T4.setTop (mkF m 41 #[.val (.ref a1), .val (.int (1 : Int32)), .val (.ref a3), .val (.int (1 : Int32)), .val (.int (1 : Int32)), .val (.int (1 : Int32)), .val (.int v0)] [])) _
    refine XS.goto X4.here hx rfl (pc0 := 41) (pc' := 3) rfl (hb hby own_d11_41) (by decide) (by decide) ?_
    show Steps p.tables e below (T4.setTop (mkF m 3 #[.val (.ref a1), .val (.int (1 : Int32)), .val (.ref a3), .val (.int (1 : Int32)), .val (.int (1 : Int32)), .val (.int (1 : Int32)), .val (.int v0)] [])) _
    refine XS.iload X4.here hx rfl (hb hby own_d11_3) rfl ?_
    show Steps p.tables e below (T4.setTop (mkF m 5 #[.val (.ref a1), .val (.int (1 : Int32)), .val (.ref a3), .val (.int (1 : Int32)), .val (.int (1 : Int32)), .val (.int (1 : Int32)), .val (.int v0)] [(.int (1 : Int32))])) _
    refine XS.iload X4.here hx rfl (hb hby own_d11_5) rfl ?_
    show Steps p.tables e below (T4.setTop (mkF m 7 #[.val (.ref a1), .val (.int (1 : Int32)), .val (.ref a3), .val (.int (1 : Int32)), .val (.int (1 : Int32)), .val (.int (1 : Int32)), .val (.int v0)] [(.int (1 : Int32)), (.int (1 : Int32))])) _
    refine XS.icmpYes X4.here hx rfl (pc0 := 7) (pc' := 44) rfl (hb hby own_d11_7) rfl (flt (by decide : ¬ ((1 : Int32) < (1 : Int32)))).2.1 (by decide) (by decide) ?_
    show Steps p.tables e below (T4.setTop (mkF m 44 #[.val (.ref a1), .val (.int (1 : Int32)), .val (.ref a3), .val (.int (1 : Int32)), .val (.int (1 : Int32)), .val (.int (1 : Int32)), .val (.int v0)] [])) _
    refine XS.iload X4.here hx rfl (hb hby own_d11_44) rfl ?_
    show Steps p.tables e below (T4.setTop (mkF m 46 #[.val (.ref a1), .val (.int (1 : Int32)), .val (.ref a3), .val (.int (1 : Int32)), .val (.int (1 : Int32)), .val (.int (1 : Int32)), .val (.int v0)] [(.int (1 : Int32))])) _
    exact retI X4 hx Bd.returns (hb hby own_d11_46) hr
  · show QC5_1 Z a1 a3 k1 k3 v0 h0 n0 _ T4.heap _
    rw [e4]
    exact ⟨rfl, N4, K4, V4⟩
theorem own_d10_0 : decode jdk_52_method_16_code 0 = .ok (.iload_n 2, 1) := by decide +kernel
theorem own_d10_1 : decode jdk_52_method_16_code 1 = .ok (.newarray .byte, 2) := by decide +kernel
theorem own_d10_3 : decode jdk_52_method_16_code 3 = .ok (.astore_n 3, 1) := by decide +kernel
theorem own_d10_4 : decode jdk_52_method_16_code 4 = .ok (.aload_n 0, 1) := by decide +kernel
theorem own_d10_5 : decode jdk_52_method_16_code 5 = .ok (.iload_n 1, 1) := by decide +kernel
theorem own_d10_6 : decode jdk_52_method_16_code 6 = .ok (.aload_n 3, 1) := by decide +kernel
theorem own_d10_7 : decode jdk_52_method_16_code 7 = .ok (.iconst 0, 1) := by decide +kernel
theorem own_d10_8 : decode jdk_52_method_16_code 8 = .ok (.iload_n 2, 1) := by decide +kernel
theorem own_d10_9 : decode jdk_52_method_16_code 9 = .ok (.invokestatic 115, 3) := by decide +kernel
theorem own_pd0 : parseMethodDescriptor "([CI[BII)I" = some ⟨[(.array .char), .int, (.array .byte), .int, .int], some .int⟩ := by decide +kernel
theorem own_d10_12 : decode jdk_52_method_16_code 12 = .ok (.istore 4, 2) := by decide +kernel
theorem own_d10_14 : decode jdk_52_method_16_code 14 = .ok (.iload 4, 2) := by decide +kernel
theorem own_d10_16 : decode jdk_52_method_16_code 16 = .ok (.iload_n 2, 1) := by decide +kernel
theorem own_d10_17 : decode jdk_52_method_16_code 17 = .ok (.if_icmp .eq 40, 3) := by decide +kernel
theorem own_d10_57 : decode jdk_52_method_16_code 57 = .ok (.aload_n 3, 1) := by decide +kernel
theorem own_d10_58 : decode jdk_52_method_16_code 58 = .ok (.areturn, 1) := by decide +kernel
theorem own_ef_rmC3_1 (m : MethodId) (a1 : Addr) : entryFrame m #[(.ref a1), (.int (0 : Int32)), (.int (1 : Int32))] 6 = mkF m 0 #[.val (.ref a1), .val (.int (0 : Int32)), .val (.int (1 : Int32)), .unset, .unset, .unset] [] := by first | (simp [entryFrame, mkF, argsToLocals, Value.category]; done) | rfl
def QC3_1 (Z : State) (a1 : Addr) (k1 : ClassId) (v0 : Int32) (h0 : Heap) (n0 : Nat) (v : Option Value) (h : Heap) (L : List Loc) : Prop := ∃ b : Addr, ∃ kb : ClassId, v = some (.ref b) ∧ Fr n0 L ∧ Keep h0 h [] ∧ h0.size ≤ b ∧ Arv Z h b kb .byte (1 : Int32) [(.int (nar .byte (v0.toInt8.toInt32)))] (.int (0 : Int32))
set_option maxRecDepth 65536 in
set_option maxHeartbeats 40000000 in
theorem rmC3_1 (l : Launch) (Z : State) (a0 : Array Value) (hw : ∀ d ∈ tables_1, d.before a0 Z = true) (ws : List Jvm.Cond) (a1 : Addr) (k1 : ClassId) (v0 : Int32) (h0 : Heap) (n0 : Nat) (Z0 : n0 ≤ h0.size) (V_a1 : Arv Z h0 a1 k1 .char (1 : Int32) [(.int v0)] (.int (0 : Int32))) (hle_v0 : ¬ ((255 : Int32) < v0)) :
    MetFree l (⟨"java/lang/StringUTF16", "compress", "([CII)[B"⟩ : MethodName) (head1 (Jvm.Cond.code (⟨"java/lang/StringUTF16", "compress", "([CII)[B"⟩ : MethodName) jdk_52_method_16_code 6 (some (.array .byte)) :: ws) ({ frames := 1, cells := 1, slots := 1, locals := 18 } : Room)) (fun a U => a = #[(.ref a1), (.int (0 : Int32)), (.int (1 : Int32))] ∧ Z.Warmed39 U.vm ∧ U.heap = h0) (fun _ _ _ _ _ => True) (fun _ U o U' => ∃ v L, o = .returned v ∧ QC3_1 Z a1 k1 v0 h0 n0 v U'.heap L ∧ FrameEnd U o U' L ({ frames := 1, cells := 1, slots := 1, locals := 18 } : Room).cells ({ frames := 1, cells := 1, slots := 1, locals := 18 } : Room).slots) := by
  refine MetFree.of_bodySF (plainFor_of_name own_pn0) hisR ?_
  intro p e s m args below meth c s₁ Bd hml0 hP hK
  obtain ⟨rfl, hZ, hh⟩ := hP
  have hx := Bd.exec
  have hby := Bd.bytes
  have hml : c.maxLocals = 6 := hml0
  have hown : s.vm.findClass "java/lang/StringUTF16" = some m.cls := findClass_of_methodNamed Bd.named
  have hnm := (name_of_methodNamed Bd.named Bd.method).1
  have X0 : Stand p l e ({ frames := 1, cells := 1, slots := 1, locals := 18 } : Room) s m #[(.ref a1), (.int (0 : Int32)), (.int (1 : Int32))] below meth c s₁ [] 0 0 := Stand.of_body Bd
  have e0 : s₁.heap = h0 := by rw [← hh, Bd.state]; rfl
  have N0 := Fr.nil n0
  have K0 : Keep h0 h0 [] := Keep.refl h0 _
  have pre0 : ∀ t, Steps p.tables e below (s₁.setTop (mkF m 0 #[.val (.ref a1), .val (.int (0 : Int32)), .val (.int (1 : Int32)), .unset, .unset, .unset] [])) t → Steps p.tables e below (s₁.setTop (entryFrame m #[(.ref a1), (.int (0 : Int32)), (.int (1 : Int32))] 6)) t := fun t k => castTop (own_ef_rmC3_1 m a1) k
  obtain ⟨T5, h5, k5, X5, e5, E5, A5, st5⟩ := newP X0 hx hZ (hw _ (List.mem_of_getElem? (i := 22) rfl)) e0 (g := (mkF m 1 #[.val (.ref a1), .val (.int (0 : Int32)), .val (.int (1 : Int32)), .unset, .unset, .unset] [(.int (1 : Int32))])) rfl (hb hby own_d10_1) rfl (by decide) (cap := 1) (by decide) (by decide) (by decide) (by decide)
  obtain ⟨b5, g5⟩ : ∃ z, z = h0.size := ⟨_, rfl⟩
  rw [← g5] at A5 st5
  have ne_a1_b5 : a1 ≠ b5 := Nat.ne_of_lt (Nat.lt_of_lt_of_le V_a1.lt (Nat.le_of_eq g5.symm))
  have gg_b5 : n0 ≤ b5 := Nat.le_trans (Nat.le_trans Z0 K0.1) (Nat.le_of_eq g5.symm)
  have sz_b5 : h0.size ≤ b5 := Nat.le_trans K0.1 (Nat.le_of_eq g5.symm)
  have K5 := K0.ext E5
  have V5 : Arv Z h5 b5 k5 .byte (1 : Int32) [(.int (0 : Int32))] (.int (0 : Int32)) := (Arv.new A5 (by decide)).pad (pad_rep [] (.int (0 : Int32)) 1)
  have Q6 := (V_a1.ext E5)
  obtain ⟨_, _, ⟨T7, L7, k7, n7⟩, -, X7, ⟨Lc7, hQ7, l7, y7, z7⟩, st7⟩ := Jvm.LawKit.callS X5 hx (y := (⟨"java/lang/StringUTF16", "compress", "([CI[BII)I"⟩ : MethodName)) hown (mvT hZ (hw _ (List.mem_of_getElem? (i := 62) rfl))) (mvT hZ (hw _ (List.mem_of_getElem? (i := 63) rfl))) (mvT hZ (hw _ (List.mem_of_getElem? (i := 60) rfl))) (mvT hZ (hw _ (List.mem_of_getElem? (i := 64) rfl))) (by decide) (backOf (W := 0) (rmC5_1 l Z a0 hw [] a1 b5 k1 k5 v0 h5 n0 (Nat.le_trans Z0 K5.1) Q6 V5 gg_b5 ne_a1_b5 hle_v0) hZ (hw _ (List.mem_of_getElem? (i := 64) rfl)) (hw _ (List.mem_of_getElem? (i := 60) rfl)) (by decide) (by decide)) (g := (mkF m 9 #[.val (.ref a1), .val (.int (0 : Int32)), .val (.int (1 : Int32)), .val (.ref b5), .unset, .unset] [(.int (1 : Int32)), (.int (0 : Int32)), (.ref b5), (.int (0 : Int32)), (.ref a1)])) rfl (by rw [hml]; rfl) (argsL := [(.ref a1), (.int (0 : Int32)), (.ref b5), (.int (0 : Int32)), (.int (1 : Int32))]) (rest := []) (lenOf own_pd0 rfl) rfl (by show 2 * 0 + _ ≤ _; exact Nat.le_of_eq rfl) (hb hby own_d10_9) (fun _ _ => ⟨rfl, e5, (by decide : 1 + 0 ≤ _), (by decide : 1 + 0 ≤ _)⟩)
  dsimp only [Pt.U, Pt.locs, Pt.cells, Pt.slots] at X7 l7 y7 z7 st7 hQ7
  subst l7 y7 z7
  obtain ⟨rfl, N7q, i7_2, i7_3⟩ := hQ7
  have N7 := Fr.app N0 N7q
  have K7 := K5.trans i7_2 (allS (Or.inr sz_b5) all0)
  obtain ⟨fs, hr, hrun, hended, hW, hsame⟩ := X7.leave (v := some (.ref b5)) (fun h => by rw [Bd.returns] at h; cases h)
  refine ⟨_, _, pre0 _ ?_, hrun, hended, _, _, rfl, ?_, ⟨_, rfl⟩, hW, hsame.mono (by decide) (by decide)⟩
  · show Steps p.tables e below (s₁.setTop (mkF m 0 #[.val (.ref a1), .val (.int (0 : Int32)), .val (.int (1 : Int32)), .unset, .unset, .unset] [])) _
    refine XS.iloadN X0.here hx rfl (hb hby own_d10_0) rfl ?_
    show Steps p.tables e below (s₁.setTop (mkF m 1 #[.val (.ref a1), .val (.int (0 : Int32)), .val (.int (1 : Int32)), .unset, .unset, .unset] [(.int (1 : Int32))])) _
    refine st5 _ ?_
    show Steps p.tables e below (T5.setTop (mkF m 3 #[.val (.ref a1), .val (.int (0 : Int32)), .val (.int (1 : Int32)), .unset, .unset, .unset] [(.ref b5)])) _
    refine XS.astoreN X5.here hx rfl (hb hby own_d10_3) rfl rfl (l' := #[.val (.ref a1), .val (.int (0 : Int32)), .val (.int (1 : Int32)), .val (.ref b5), .unset, .unset]) rfl ?_
    show Steps p.tables e below (T5.setTop (mkF m 4 #[.val (.ref a1), .val (.int (0 : Int32)), .val (.int (1 : Int32)), .val (.ref b5), .unset, .unset] [])) _
    refine XS.aloadN X5.here hx rfl (hb hby own_d10_4) rfl rfl ?_
    show Steps p.tables e below (T5.setTop (mkF m 5 #[.val (.ref a1), .val (.int (0 : Int32)), .val (.int (1 : Int32)), .val (.ref b5), .unset, .unset] [(.ref a1)])) _
    refine XS.iloadN X5.here hx rfl (hb hby own_d10_5) rfl ?_
    show Steps p.tables e below (T5.setTop (mkF m 6 #[.val (.ref a1), .val (.int (0 : Int32)), .val (.int (1 : Int32)), .val (.ref b5), .unset, .unset] [(.int (0 : Int32)), (.ref a1)])) _
    refine XS.aloadN X5.here hx rfl (hb hby own_d10_6) rfl rfl ?_
    show Steps p.tables e below (T5.setTop (mkF m 7 #[.val (.ref a1), .val (.int (0 : Int32)), .val (.int (1 : Int32)), .val (.ref b5), .unset, .unset] [(.ref b5), (.int (0 : Int32)), (.ref a1)])) _
    refine XS.iconst X5.here hx rfl (hb hby own_d10_7) ?_
    show Steps p.tables e below (T5.setTop (mkF m 8 #[.val (.ref a1), .val (.int (0 : Int32)), .val (.int (1 : Int32)), .val (.ref b5), .unset, .unset] [(.int (0 : Int32)), (.ref b5), (.int (0 : Int32)), (.ref a1)])) _
    refine XS.iloadN X5.here hx rfl (hb hby own_d10_8) rfl ?_
    show Steps p.tables e below (T5.setTop (mkF m 9 #[.val (.ref a1), .val (.int (0 : Int32)), .val (.int (1 : Int32)), .val (.ref b5), .unset, .unset] [(.int (1 : Int32)), (.int (0 : Int32)), (.ref b5), (.int (0 : Int32)), (.ref a1)])) _
    refine st7 _ ?_
    show Steps p.tables e below (T7.setTop (mkF m 12 #[.val (.ref a1), .val (.int (0 : Int32)), .val (.int (1 : Int32)), .val (.ref b5), .unset, .unset] [(.int (1 : Int32))])) _
    refine XS.istore X7.here hx rfl (hb hby own_d10_12) rfl (l' := #[.val (.ref a1), .val (.int (0 : Int32)), .val (.int (1 : Int32)), .val (.ref b5), .val (.int (1 : Int32)), .unset]) rfl ?_
    show Steps p.tables e below (T7.setTop (mkF m 14 #[.val (.ref a1), .val (.int (0 : Int32)), .val (.int (1 : Int32)), .val (.ref b5), .val (.int (1 : Int32)), .unset] [])) _
    refine XS.iload X7.here hx rfl (hb hby own_d10_14) rfl ?_
    show Steps p.tables e below (T7.setTop (mkF m 16 #[.val (.ref a1), .val (.int (0 : Int32)), .val (.int (1 : Int32)), .val (.ref b5), .val (.int (1 : Int32)), .unset] [(.int (1 : Int32))])) _
    refine XS.iloadN X7.here hx rfl (hb hby own_d10_16) rfl ?_
    show Steps p.tables e below (T7.setTop (mkF m 17 #[.val (.ref a1), .val (.int (0 : Int32)), .val (.int (1 : Int32)), .val (.ref b5), .val (.int (1 : Int32)), .unset] [(.int (1 : Int32)), (.int (1 : Int32))])) _
    refine XS.icmpYes X7.here hx rfl (pc0 := 17) (pc' := 57) rfl (hb hby own_d10_17) rfl (teq (by decide : ((1 : Int32) = (1 : Int32)))).1 (by decide) (by decide) ?_
    show Steps p.tables e below (T7.setTop (mkF m 57 #[.val (.ref a1), .val (.int (0 : Int32)), .val (.int (1 : Int32)), .val (.ref b5), .val (.int (1 : Int32)), .unset] [])) _
    refine XS.aloadN X7.here hx rfl (hb hby own_d10_57) rfl rfl ?_
    show Steps p.tables e below (T7.setTop (mkF m 58 #[.val (.ref a1), .val (.int (0 : Int32)), .val (.int (1 : Int32)), .val (.ref b5), .val (.int (1 : Int32)), .unset] [(.ref b5)])) _
    jvm_step X7.here [X7.here.top, hx, (hb hby own_d10_58), X7.method', Bd.returns, Value.isRef, FieldType.isReference]
    first | (intro acts; rw [hr _ acts rfl rfl rfl]) | rw [hr _ _ rfl rfl rfl]
    exact Steps.refl _
  · show QC3_1 Z a1 k1 v0 h0 n0 _ T7.heap _
    exact ⟨b5, k5, rfl, N7, K7, sz_b5, i7_3⟩
theorem own_d12_0 : decode jdk_52_method_15_code 0 = .ok (.iload_n 1, 1) := by decide +kernel
theorem own_d12_1 : decode jdk_52_method_15_code 1 = .ok (.aload_n 0, 1) := by decide +kernel
theorem own_d12_2 : decode jdk_52_method_15_code 2 = .ok (.arraylength, 1) := by decide +kernel
theorem own_d12_3 : decode jdk_52_method_15_code 3 = .ok (.isub, 1) := by decide +kernel
theorem own_d12_4 : decode jdk_52_method_15_code 4 = .ok (.bipush 31, 2) := by decide +kernel
theorem own_d12_6 : decode jdk_52_method_15_code 6 = .ok (.iushr, 1) := by decide +kernel
theorem own_d12_7 : decode jdk_52_method_15_code 7 = .ok (.i2b, 1) := by decide +kernel
theorem own_d12_8 : decode jdk_52_method_15_code 8 = .ok (.ireturn, 1) := by decide +kernel
theorem own_ef_rmCo_1 (m : MethodId) (a1 : Addr) : entryFrame m #[(.ref a1), (.int (1 : Int32))] 2 = mkF m 0 #[.val (.ref a1), .val (.int (1 : Int32))] [] := by first | (simp [entryFrame, mkF, argsToLocals, Value.category]; done) | rfl
def QCo_1 (Z : State) (a1 : Addr) (k1 : ClassId) (v0 : Int32) (h0 : Heap) (n0 : Nat) (v : Option Value) (h : Heap) (L : List Loc) : Prop := v = some (.int (0 : Int32)) ∧ Fr n0 L ∧ h = h0
set_option maxRecDepth 65536 in
set_option maxHeartbeats 40000000 in
theorem rmCo_1 (l : Launch) (Z : State) (a0 : Array Value) (hw : ∀ d ∈ tables_1, d.before a0 Z = true) (ws : List Jvm.Cond) (a1 : Addr) (k1 : ClassId) (v0 : Int32) (h0 : Heap) (n0 : Nat) (Z0 : n0 ≤ h0.size) (V_a1 : Arv Z h0 a1 k1 .byte (1 : Int32) [(.int v0)] (.int (0 : Int32))) :
    MetFree l (⟨"java/lang/StringUTF16", "coderFromArrayLen", "([BI)B"⟩ : MethodName) (head1 (Jvm.Cond.code (⟨"java/lang/StringUTF16", "coderFromArrayLen", "([BI)B"⟩ : MethodName) jdk_52_method_15_code 2 (some .byte) :: ws) ({ frames := 0, cells := 0, slots := 0, locals := 0 } : Room)) (fun a U => a = #[(.ref a1), (.int (1 : Int32))] ∧ Z.Warmed39 U.vm ∧ U.heap = h0) (fun _ _ _ _ _ => True) (fun _ U o U' => ∃ v L, o = .returned v ∧ QCo_1 Z a1 k1 v0 h0 n0 v U'.heap L ∧ FrameEnd U o U' L ({ frames := 0, cells := 0, slots := 0, locals := 0 } : Room).cells ({ frames := 0, cells := 0, slots := 0, locals := 0 } : Room).slots) := by
  refine MetFree.of_bodySF (plainFor_of_name own_pn0) hisR ?_
  intro p e s m args below meth c s₁ Bd hml0 hP hK
  obtain ⟨rfl, hZ, hh⟩ := hP
  have hx := Bd.exec
  have hby := Bd.bytes
  have hml : c.maxLocals = 2 := hml0
  have hown : s.vm.findClass "java/lang/StringUTF16" = some m.cls := findClass_of_methodNamed Bd.named
  have hnm := (name_of_methodNamed Bd.named Bd.method).1
  have X0 : Stand p l e ({ frames := 0, cells := 0, slots := 0, locals := 0 } : Room) s m #[(.ref a1), (.int (1 : Int32))] below meth c s₁ [] 0 0 := Stand.of_body Bd
  have e0 : s₁.heap = h0 := by rw [← hh, Bd.state]; rfl
  have N0 := Fr.nil n0
  have K0 : Keep h0 h0 [] := Keep.refl h0 _
  have pre0 : ∀ t, Steps p.tables e below (s₁.setTop (mkF m 0 #[.val (.ref a1), .val (.int (1 : Int32))] [])) t → Steps p.tables e below (s₁.setTop (entryFrame m #[(.ref a1), (.int (1 : Int32))] 2)) t := fun t k => castTop (own_ef_rmCo_1 m a1) k
  obtain ⟨cl8, Ar8, q8, S8, M8, H8, G8⟩ := id V_a1
  obtain ⟨fs, hr, hrun, hended, hW, hsame⟩ := X0.leave (v := some (.int (0 : Int32))) (fun h => by rw [Bd.returns] at h; cases h)
  refine ⟨_, _, pre0 _ ?_, hrun, hended, _, _, rfl, ?_, ⟨_, rfl⟩, hW, hsame.mono (by decide) (by decide)⟩
  · show Steps p.tables e below (s₁.setTop (mkF m 0 #[.val (.ref a1), .val (.int (1 : Int32))] [])) _
    refine XS.iloadN X0.here hx rfl (hb hby own_d12_0) rfl ?_
    show Steps p.tables e below (s₁.setTop (mkF m 1 #[.val (.ref a1), .val (.int (1 : Int32))] [(.int (1 : Int32))])) _
    refine XS.aloadN X0.here hx rfl (hb hby own_d12_1) rfl rfl ?_
    show Steps p.tables e below (s₁.setTop (mkF m 2 #[.val (.ref a1), .val (.int (1 : Int32))] [(.ref a1), (.int (1 : Int32))])) _
    refine X0.arraylength hx (by rw [e0]; exact Ar8.1) (State.isArrayOf_alike hZ.alike Ar8.2.1) (g := (mkF m 2 #[.val (.ref a1), .val (.int (1 : Int32))] [(.ref a1), (.int (1 : Int32))])) rfl rfl (hb hby own_d12_2) _ ?_
    rw [len_of S8 M8]
    show Steps p.tables e below (s₁.setTop (mkF m 3 #[.val (.ref a1), .val (.int (1 : Int32))] [(.int (1 : Int32)), (.int (1 : Int32))])) _
    refine XS.isub X0.here hx rfl (hb hby own_d12_3) rfl ?_
    show Steps p.tables e below (s₁.setTop (mkF m 4 #[.val (.ref a1), .val (.int (1 : Int32))] [(.int (0 : Int32))])) _
    refine XS.bipush X0.here hx rfl (hb hby own_d12_4) ?_
    show Steps p.tables e below (s₁.setTop (mkF m 6 #[.val (.ref a1), .val (.int (1 : Int32))] [(.int (31 : Int32)), (.int (0 : Int32))])) _
    refine XS.iushr X0.here hx rfl (hb hby own_d12_6) rfl ?_
    show Steps p.tables e below (s₁.setTop (mkF m 7 #[.val (.ref a1), .val (.int (1 : Int32))] [(.int (0 : Int32))])) _
    refine XS.i2b X0.here hx rfl (hb hby own_d12_7) rfl ?_
    show Steps p.tables e below (s₁.setTop (mkF m 8 #[.val (.ref a1), .val (.int (1 : Int32))] [(.int (0 : Int32))])) _
    exact retN X0 hx (t := .byte) Bd.returns (by simp) (hb hby own_d12_8) hr
  · show QCo_1 Z a1 k1 v0 h0 n0 _ s₁.heap _
    rw [e0]
    exact ⟨rfl, N0, rfl⟩
theorem own_d3_0 : decode jdk_42_method_149_code 0 = .ok (.aload_n 0, 1) := by decide +kernel
theorem own_d3_1 : decode jdk_42_method_149_code 1 = .ok (.invokespecial 1, 3) := by decide +kernel
theorem own_d3_4 : decode jdk_42_method_149_code 4 = .ok (.iload_n 3, 1) := by decide +kernel
theorem own_d3_5 : decode jdk_42_method_149_code 5 = .ok (.ifCond .ne 22, 3) := by decide +kernel
theorem own_d3_27 : decode jdk_42_method_149_code 27 = .ok (.getstatic 38, 3) := by decide +kernel
theorem own_d3_30 : decode jdk_42_method_149_code 30 = .ok (.ifCond .eq 28, 3) := by decide +kernel
theorem own_d3_33 : decode jdk_42_method_149_code 33 = .ok (.aload_n 1, 1) := by decide +kernel
theorem own_d3_34 : decode jdk_42_method_149_code 34 = .ok (.iload_n 2, 1) := by decide +kernel
theorem own_d3_35 : decode jdk_42_method_149_code 35 = .ok (.iload_n 3, 1) := by decide +kernel
theorem own_d3_36 : decode jdk_42_method_149_code 36 = .ok (.invokestatic 177, 3) := by decide +kernel
theorem own_pd1 : parseMethodDescriptor "([CII)[B" = some ⟨[(.array .char), .int, .int], some (.array .byte)⟩ := by decide +kernel
theorem own_d3_39 : decode jdk_42_method_149_code 39 = .ok (.astore 5, 2) := by decide +kernel
theorem own_d3_41 : decode jdk_42_method_149_code 41 = .ok (.aload_n 0, 1) := by decide +kernel
theorem own_d3_42 : decode jdk_42_method_149_code 42 = .ok (.aload 5, 2) := by decide +kernel
theorem own_d3_44 : decode jdk_42_method_149_code 44 = .ok (.iload_n 3, 1) := by decide +kernel
theorem own_d3_45 : decode jdk_42_method_149_code 45 = .ok (.invokestatic 47, 3) := by decide +kernel
theorem own_pd2 : parseMethodDescriptor "([BI)B" = some ⟨[(.array .byte), .int], some .byte⟩ := by decide +kernel
theorem own_d3_48 : decode jdk_42_method_149_code 48 = .ok (.putfield 15, 3) := by decide +kernel
theorem own_d3_51 : decode jdk_42_method_149_code 51 = .ok (.aload_n 0, 1) := by decide +kernel
theorem own_d3_52 : decode jdk_42_method_149_code 52 = .ok (.aload 5, 2) := by decide +kernel
theorem own_d3_54 : decode jdk_42_method_149_code 54 = .ok (.putfield 9, 3) := by decide +kernel
theorem own_d3_57 : decode jdk_42_method_149_code 57 = .ok (.return_, 1) := by decide +kernel
theorem own_pn1 : plainName "java/lang/String" = true := by first | (simp [plainName, overriddenIn]; done) | decide +kernel
theorem own_ef_rmI4_1 (m : MethodId) (a1 : Addr) (a2 : Addr) : entryFrame m #[(.ref a1), (.ref a2), (.int (0 : Int32)), (.int (1 : Int32)), .null] 6 = mkF m 0 #[.val (.ref a1), .val (.ref a2), .val (.int (0 : Int32)), .val (.int (1 : Int32)), .val .null, .unset] [] := by first | (simp [entryFrame, mkF, argsToLocals, Value.category]; done) | rfl
def QI4_1 (Z : State) (a1 : Addr) (a2 : Addr) (cw : Int32) (k2 : ClassId) (v0 : Int32) (h0 : Heap) (n0 : Nat) (v : Option Value) (h : Heap) (L : List Loc) : Prop := ∃ b : Addr, ∃ kb : ClassId, v = none ∧ Fr n0 L ∧ Keep h0 h [a1] ∧ h0.size ≤ b ∧ Exa Z h a1 "java/lang/String" ∧ Fld Z h a1 "java/lang/String" "coder" "B" (.int (0 : Int32)) ∧ Fld Z h a1 "java/lang/String" "value" "[B" (.ref b) ∧ Arv Z h b kb .byte (1 : Int32) [(.int (nar .byte (v0.toInt8.toInt32)))] (.int (0 : Int32))
set_option maxRecDepth 65536 in
set_option maxHeartbeats 40000000 in
theorem rmI4_1 (l : Launch) (Z : State) (a0 : Array Value) (hw : ∀ d ∈ tables_1, d.before a0 Z = true) (ws : List Jvm.Cond) (a1 : Addr) (a2 : Addr) (cw : Int32) (k2 : ClassId) (v0 : Int32) (h0 : Heap) (n0 : Nat) (Z0 : n0 ≤ h0.size) (E_a1 : Exa Z h0 a1 "java/lang/String") (F_a1_value : Fld Z h0 a1 "java/lang/String" "value" "[B" .null) (F_a1_coder : Fld Z h0 a1 "java/lang/String" "coder" "B" (.int (0 : Int32))) (gg_a1 : n0 ≤ a1) (S_COMPACT_STRINGS : Sta Z h0 "java/lang/String" "COMPACT_STRINGS" "Z" (.int cw)) (hw0 : ¬ (cw = (0 : Int32))) (V_a2 : Arv Z h0 a2 k2 .char (1 : Int32) [(.int v0)] (.int (0 : Int32))) (hle_v0 : ¬ ((255 : Int32) < v0)) :
    MetFree l (⟨"java/lang/String", "<init>", "([CIILjava/lang/Void;)V"⟩ : MethodName) (head1 (Jvm.Cond.code (⟨"java/lang/String", "<init>", "([CIILjava/lang/Void;)V"⟩ : MethodName) jdk_42_method_149_code 6 none :: ws) ({ frames := 2, cells := 1, slots := 1, locals := 35 } : Room)) (fun a U => a = #[(.ref a1), (.ref a2), (.int (0 : Int32)), (.int (1 : Int32)), .null] ∧ Z.Warmed39 U.vm ∧ U.heap = h0) (fun _ _ _ _ _ => True) (fun _ U o U' => ∃ v L, o = .returned v ∧ QI4_1 Z a1 a2 cw k2 v0 h0 n0 v U'.heap L ∧ FrameEnd U o U' L ({ frames := 2, cells := 1, slots := 1, locals := 35 } : Room).cells ({ frames := 2, cells := 1, slots := 1, locals := 35 } : Room).slots) := by
  refine MetFree.of_bodySF (plainFor_of_name own_pn1) hisR ?_
  intro p e s m args below meth c s₁ Bd hml0 hP hK
  obtain ⟨rfl, hZ, hh⟩ := hP
  have hx := Bd.exec
  have hby := Bd.bytes
  have hml : c.maxLocals = 6 := hml0
  have hown : s.vm.findClass "java/lang/String" = some m.cls := findClass_of_methodNamed Bd.named
  have hnm := (name_of_methodNamed Bd.named Bd.method).1
  have X0 : Stand p l e ({ frames := 2, cells := 1, slots := 1, locals := 35 } : Room) s m #[(.ref a1), (.ref a2), (.int (0 : Int32)), (.int (1 : Int32)), .null] below meth c s₁ [] 0 0 := Stand.of_body Bd
  have e0 : s₁.heap = h0 := by rw [← hh, Bd.state]; rfl
  have N0 := Fr.nil n0
  have K0 : Keep h0 h0 [a1] := Keep.refl h0 _
  have pre0 : ∀ t, Steps p.tables e below (s₁.setTop (mkF m 0 #[.val (.ref a1), .val (.ref a2), .val (.int (0 : Int32)), .val (.int (1 : Int32)), .val .null, .unset] [])) t → Steps p.tables e below (s₁.setTop (entryFrame m #[(.ref a1), (.ref a2), (.int (0 : Int32)), (.int (1 : Int32)), .null] 6)) t := fun t k => castTop (own_ef_rmI4_1 m a1 a2) k
  obtain ⟨T9, X9, e9, st9⟩ := initO X0 hx hZ hown (hw _ (List.mem_of_getElem? (i := 18) rfl)) (hw _ (List.mem_of_getElem? (i := 19) rfl)) (hw _ (List.mem_of_getElem? (i := 20) rfl)) e0 (g := (mkF m 1 #[.val (.ref a1), .val (.ref a2), .val (.int (0 : Int32)), .val (.int (1 : Int32)), .val .null, .unset] [(.ref a1)])) rfl (by rw [hml]; rfl) rfl (hb hby own_d3_1) (by decide) (W := 0) (by show 2 * 0 + _ ≤ _; exact Nat.le_of_eq rfl) (by decide)
  obtain ⟨T10, X10, e10, st10⟩ := getS2 X9 hx hZ hown (host := "") (Or.inl (hw _ (List.mem_of_getElem? (i := 53) rfl))) Via.refl e9 S_COMPACT_STRINGS (g := (mkF m 27 #[.val (.ref a1), .val (.ref a2), .val (.int (0 : Int32)), .val (.int (1 : Int32)), .val .null, .unset] [])) rfl (hb hby own_d3_27)
  have hc30_11 : ¬ (cw = (0 : Int32)) := hw0
  obtain ⟨_, _, ⟨T12, L12, k12, n12⟩, -, X12, ⟨Lc12, hQ12, l12, y12, z12⟩, st12⟩ := Jvm.LawKit.callS X10 hx (y := (⟨"java/lang/StringUTF16", "compress", "([CII)[B"⟩ : MethodName)) hown (mvT hZ (hw _ (List.mem_of_getElem? (i := 58) rfl))) (mvT hZ (hw _ (List.mem_of_getElem? (i := 59) rfl))) (mvT hZ (hw _ (List.mem_of_getElem? (i := 60) rfl))) (mvT hZ (hw _ (List.mem_of_getElem? (i := 61) rfl))) (by decide) (backOf (W := 0) (rmC3_1 l Z a0 hw [] a2 k2 v0 h0 n0 (Nat.le_trans Z0 K0.1) V_a2 hle_v0) hZ (hw _ (List.mem_of_getElem? (i := 61) rfl)) (hw _ (List.mem_of_getElem? (i := 60) rfl)) (by decide) (by decide)) (g := (mkF m 36 #[.val (.ref a1), .val (.ref a2), .val (.int (0 : Int32)), .val (.int (1 : Int32)), .val .null, .unset] [(.int (1 : Int32)), (.int (0 : Int32)), (.ref a2)])) rfl (by rw [hml]; rfl) (argsL := [(.ref a2), (.int (0 : Int32)), (.int (1 : Int32))]) (rest := []) (lenOf own_pd1 rfl) rfl (by show 2 * 0 + _ ≤ _; exact Nat.le_of_eq rfl) (hb hby own_d3_36) (fun _ _ => ⟨rfl, e10, (by decide : 0 + 1 ≤ _), (by decide : 0 + 1 ≤ _)⟩)
  dsimp only [Pt.U, Pt.locs, Pt.cells, Pt.slots] at X12 l12 y12 z12 st12 hQ12
  subst l12 y12 z12
  obtain ⟨b_12, kb_12, rfl, N12q, i12_4, i12_5, i12_6⟩ := hQ12
  have N12 := Fr.app N0 N12q
  have ne_a1_b_12 : a1 ≠ b_12 := Nat.ne_of_lt (Nat.lt_of_lt_of_le E_a1.lt i12_5)
  have ne_a2_b_12 : a2 ≠ b_12 := Nat.ne_of_lt (Nat.lt_of_lt_of_le V_a2.lt i12_5)
  have gg_b_12 : n0 ≤ b_12 := Nat.le_trans (Nat.le_trans Z0 K0.1) i12_5
  have sz_b_12 : h0.size ≤ b_12 := Nat.le_trans K0.1 i12_5
  have K12 := K0.trans i12_4 all0
  obtain ⟨_, _, ⟨T13, L13, k13, n13⟩, -, X13, ⟨Lc13, hQ13, l13, y13, z13⟩, st13⟩ := Jvm.LawKit.callS X12 hx (y := (⟨"java/lang/StringUTF16", "coderFromArrayLen", "([BI)B"⟩ : MethodName)) hown (mvT hZ (hw _ (List.mem_of_getElem? (i := 65) rfl))) (mvT hZ (hw _ (List.mem_of_getElem? (i := 66) rfl))) (mvT hZ (hw _ (List.mem_of_getElem? (i := 60) rfl))) (mvT hZ (hw _ (List.mem_of_getElem? (i := 67) rfl))) (by decide) (backOf (W := 1) (rmCo_1 l Z a0 hw [] b_12 kb_12 (nar .byte (v0.toInt8.toInt32)) T12.heap n0 (Nat.le_trans Z0 K12.1) i12_6) hZ (hw _ (List.mem_of_getElem? (i := 67) rfl)) (hw _ (List.mem_of_getElem? (i := 60) rfl)) (by decide) (by decide)) (g := (mkF m 45 #[.val (.ref a1), .val (.ref a2), .val (.int (0 : Int32)), .val (.int (1 : Int32)), .val .null, .val (.ref b_12)] [(.int (1 : Int32)), (.ref b_12), (.ref a1)])) rfl (by rw [hml]; rfl) (argsL := [(.ref b_12), (.int (1 : Int32))]) (rest := [(.ref a1)]) (lenOf own_pd2 rfl) rfl (by show 2 * 0 + _ ≤ _; exact Nat.le_of_eq rfl) (hb hby own_d3_45) (fun _ _ => ⟨rfl, rfl, (by decide : 1 + 0 ≤ _), (by decide : 1 + 0 ≤ _)⟩)
  dsimp only [Pt.U, Pt.locs, Pt.cells, Pt.slots] at X13 l13 y13 z13 st13 hQ13
  subst l13 y13 z13
  obtain ⟨rfl, N13q, e13⟩ := hQ13
  have N13 := Fr.app N12 N13q
  have Q14 := (E_a1.keep i12_4)
  have Q15 := (F_a1_coder.keep i12_4 nin0)
  obtain ⟨T16, h16, X16, e16, W16, st16⟩ := putFN X13 hx hZ hown (hw _ (List.mem_of_getElem? (i := 28) rfl)) Via.refl e13 Q15 Q14 (Or.inr ⟨(hw _ (List.mem_of_getElem? (i := 24) rfl)), rfl, hnm⟩) (hw _ (List.mem_of_getElem? (i := 8) rfl)) (ty := .byte) (v' := (.int (0 : Int32))) (by decide) rfl (by decide) (g := (mkF m 48 #[.val (.ref a1), .val (.ref a2), .val (.int (0 : Int32)), .val (.int (1 : Int32)), .val .null, .val (.ref b_12)] [(.int (0 : Int32)), (.ref a1)])) rfl rfl (hb hby own_d3_48)
  have Fw16 := Q15.same W16
  have K16 := K12.wr W16 (Or.inl (List.mem_of_getElem? (i := 0) rfl))
  have N16 := Fr.snoc X16 N13 gg_a1
  have Q17 := (Q14.wr W16)
  have Q18 := ((F_a1_value.keep i12_4 nin0).other W16 (Or.inr (slot_ne (Or.inr (hw _ (List.mem_of_getElem? (i := 23) rfl))) (Or.inr (hw _ (List.mem_of_getElem? (i := 24) rfl))) (by decide) (t := (.array .byte)) (t' := .byte) (by decide) (by decide))))
  obtain ⟨T19, h19, X19, e19, W19, st19⟩ := putF X16 hx hZ hown (host := "") (Or.inl (hw _ (List.mem_of_getElem? (i := 27) rfl))) Via.refl e16 Q18 Q17 (Or.inr ⟨(hw _ (List.mem_of_getElem? (i := 23) rfl)), rfl, hnm⟩) (hw _ (List.mem_of_getElem? (i := 8) rfl)) (ty := (.array .byte)) (by decide) rfl rfl (g := (mkF m 54 #[.val (.ref a1), .val (.ref a2), .val (.int (0 : Int32)), .val (.int (1 : Int32)), .val .null, .val (.ref b_12)] [(.ref b_12), (.ref a1)])) rfl rfl (hb hby own_d3_54)
  have Fw19 := Q18.same W19
  have K19 := K16.wr W19 (Or.inl (List.mem_of_getElem? (i := 0) rfl))
  have N19 := Fr.snoc X19 N16 gg_a1
  have Q20 := (Q17.wr W19)
  have Q21 := (Fw16.other W19 (Or.inr (slot_ne (Or.inr (hw _ (List.mem_of_getElem? (i := 24) rfl))) (Or.inr (hw _ (List.mem_of_getElem? (i := 23) rfl))) (by decide) (t := .byte) (t' := (.array .byte)) (by decide) (by decide))))
  have Q22 := ((i12_6.other W16 (Ne.symm ne_a1_b_12)).other W19 (Ne.symm ne_a1_b_12))
  obtain ⟨fs, hr, hrun, hended, hW, hsame⟩ := X19.leave (v := none) (fun _ => rfl)
  refine ⟨_, _, pre0 _ ?_, hrun, hended, _, _, rfl, ?_, ⟨_, rfl⟩, hW, hsame.mono (by decide) (by decide)⟩
  · show Steps p.tables e below (s₁.setTop (mkF m 0 #[.val (.ref a1), .val (.ref a2), .val (.int (0 : Int32)), .val (.int (1 : Int32)), .val .null, .unset] [])) _
    refine XS.aloadN X0.here hx rfl (hb hby own_d3_0) rfl rfl ?_
    show Steps p.tables e below (s₁.setTop (mkF m 1 #[.val (.ref a1), .val (.ref a2), .val (.int (0 : Int32)), .val (.int (1 : Int32)), .val .null, .unset] [(.ref a1)])) _
    refine st9 _ ?_
    show Steps p.tables e below (T9.setTop (mkF m 4 #[.val (.ref a1), .val (.ref a2), .val (.int (0 : Int32)), .val (.int (1 : Int32)), .val .null, .unset] [])) _
    refine XS.iloadN X9.here hx rfl (hb hby own_d3_4) rfl ?_
    show Steps p.tables e below (T9.setTop (mkF m 5 #[.val (.ref a1), .val (.ref a2), .val (.int (0 : Int32)), .val (.int (1 : Int32)), .val .null, .unset] [(.int (1 : Int32))])) _
    refine XS.ifYes X9.here hx rfl (pc0 := 5) (pc' := 27) rfl (hb hby own_d3_5) rfl ((if0 _ _).trans (feq (by decide : ¬ ((1 : Int32) = (0 : Int32)))).2) (by decide) (by decide) ?_
    show Steps p.tables e below (T9.setTop (mkF m 27 #[.val (.ref a1), .val (.ref a2), .val (.int (0 : Int32)), .val (.int (1 : Int32)), .val .null, .unset] [])) _
    refine st10 _ ?_
    show Steps p.tables e below (T10.setTop (mkF m 30 #[.val (.ref a1), .val (.ref a2), .val (.int (0 : Int32)), .val (.int (1 : Int32)), .val .null, .unset] [(.int cw)])) _
    refine XS.ifNo X10.here hx rfl (hb hby own_d3_30) rfl ((if0 _ _).trans (feq hc30_11).1) ?_
    show Steps p.tables e below (T10.setTop (mkF m 33 #[.val (.ref a1), .val (.ref a2), .val (.int (0 : Int32)), .val (.int (1 : Int32)), .val .null, .unset] [])) _
    refine XS.aloadN X10.here hx rfl (hb hby own_d3_33) rfl rfl ?_
    show Steps p.tables e below (T10.setTop (mkF m 34 #[.val (.ref a1), .val (.ref a2), .val (.int (0 : Int32)), .val (.int (1 : Int32)), .val .null, .unset] [(.ref a2)])) _
    refine XS.iloadN X10.here hx rfl (hb hby own_d3_34) rfl ?_
    show Steps p.tables e below (T10.setTop (mkF m 35 #[.val (.ref a1), .val (.ref a2), .val (.int (0 : Int32)), .val (.int (1 : Int32)), .val .null, .unset] [(.int (0 : Int32)), (.ref a2)])) _
    refine XS.iloadN X10.here hx rfl (hb hby own_d3_35) rfl ?_
    show Steps p.tables e below (T10.setTop (mkF m 36 #[.val (.ref a1), .val (.ref a2), .val (.int (0 : Int32)), .val (.int (1 : Int32)), .val .null, .unset] [(.int (1 : Int32)), (.int (0 : Int32)), (.ref a2)])) _
    refine st12 _ ?_
    show Steps p.tables e below (T12.setTop (mkF m 39 #[.val (.ref a1), .val (.ref a2), .val (.int (0 : Int32)), .val (.int (1 : Int32)), .val .null, .unset] [(.ref b_12)])) _
    refine XS.astore X12.here hx rfl (hb hby own_d3_39) rfl rfl (l' := #[.val (.ref a1), .val (.ref a2), .val (.int (0 : Int32)), .val (.int (1 : Int32)), .val .null, .val (.ref b_12)]) rfl ?_
    show Steps p.tables e below (T12.setTop (mkF m 41 #[.val (.ref a1), .val (.ref a2), .val (.int (0 : Int32)), .val (.int (1 : Int32)), .val .null, .val (.ref b_12)] [])) _
    refine XS.aloadN X12.here hx rfl (hb hby own_d3_41) rfl rfl ?_
    show Steps p.tables e below (T12.setTop (mkF m 42 #[.val (.ref a1), .val (.ref a2), .val (.int (0 : Int32)), .val (.int (1 : Int32)), .val .null, .val (.ref b_12)] [(.ref a1)])) _
    refine XS.aload X12.here hx rfl (hb hby own_d3_42) rfl rfl ?_
    show Steps p.tables e below (T12.setTop (mkF m 44 #[.val (.ref a1), .val (.ref a2), .val (.int (0 : Int32)), .val (.int (1 : Int32)), .val .null, .val (.ref b_12)] [(.ref b_12), (.ref a1)])) _
    refine XS.iloadN X12.here hx rfl (hb hby own_d3_44) rfl ?_
    show Steps p.tables e below (T12.setTop (mkF m 45 #[.val (.ref a1), .val (.ref a2), .val (.int (0 : Int32)), .val (.int (1 : Int32)), .val .null, .val (.ref b_12)] [(.int (1 : Int32)), (.ref b_12), (.ref a1)])) _
    refine st13 _ ?_
    show Steps p.tables e below (T13.setTop (mkF m 48 #[.val (.ref a1), .val (.ref a2), .val (.int (0 : Int32)), .val (.int (1 : Int32)), .val .null, .val (.ref b_12)] [(.int (0 : Int32)), (.ref a1)])) _
    refine st16 _ ?_
    show Steps p.tables e below (T16.setTop (mkF m 51 #[.val (.ref a1), .val (.ref a2), .val (.int (0 : Int32)), .val (.int (1 : Int32)), .val .null, .val (.ref b_12)] [])) _
    refine XS.aloadN X16.here hx rfl (hb hby own_d3_51) rfl rfl ?_
    show Steps p.tables e below (T16.setTop (mkF m 52 #[.val (.ref a1), .val (.ref a2), .val (.int (0 : Int32)), .val (.int (1 : Int32)), .val .null, .val (.ref b_12)] [(.ref a1)])) _
    refine XS.aload X16.here hx rfl (hb hby own_d3_52) rfl rfl ?_
    show Steps p.tables e below (T16.setTop (mkF m 54 #[.val (.ref a1), .val (.ref a2), .val (.int (0 : Int32)), .val (.int (1 : Int32)), .val .null, .val (.ref b_12)] [(.ref b_12), (.ref a1)])) _
    refine st19 _ ?_
    show Steps p.tables e below (T19.setTop (mkF m 57 #[.val (.ref a1), .val (.ref a2), .val (.int (0 : Int32)), .val (.int (1 : Int32)), .val .null, .val (.ref b_12)] [])) _
    exact X19.returnOut hx Bd.returns (hb hby own_d3_57) hr
  · show QI4_1 Z a1 a2 cw k2 v0 h0 n0 _ T19.heap _
    rw [e19]
    exact ⟨b_12, kb_12, rfl, N19, K19, sz_b_12, Q20, Q21, Fw19, Q22⟩
theorem own_d2_0 : decode jdk_42_method_3_code 0 = .ok (.aload_n 0, 1) := by decide +kernel
theorem own_d2_1 : decode jdk_42_method_3_code 1 = .ok (.aload_n 1, 1) := by decide +kernel
theorem own_d2_2 : decode jdk_42_method_3_code 2 = .ok (.iconst 0, 1) := by decide +kernel
theorem own_d2_3 : decode jdk_42_method_3_code 3 = .ok (.aload_n 1, 1) := by decide +kernel
theorem own_d2_4 : decode jdk_42_method_3_code 4 = .ok (.arraylength, 1) := by decide +kernel
theorem own_d2_5 : decode jdk_42_method_3_code 5 = .ok (.aconst_null, 1) := by decide +kernel
theorem own_d2_6 : decode jdk_42_method_3_code 6 = .ok (.invokespecial 27, 3) := by decide +kernel
theorem own_pd3 : parseMethodDescriptor "([CIILjava/lang/Void;)V" = some ⟨[(.array .char), .int, .int, (.object "java/lang/Void")], none⟩ := by decide +kernel
theorem own_d2_9 : decode jdk_42_method_3_code 9 = .ok (.return_, 1) := by decide +kernel
theorem own_ef_rmI1_1 (m : MethodId) (a1 : Addr) (a2 : Addr) : entryFrame m #[(.ref a1), (.ref a2)] 2 = mkF m 0 #[.val (.ref a1), .val (.ref a2)] [] := by first | (simp [entryFrame, mkF, argsToLocals, Value.category]; done) | rfl
def QI1_1 (Z : State) (a1 : Addr) (a2 : Addr) (cw : Int32) (k2 : ClassId) (v0 : Int32) (h0 : Heap) (n0 : Nat) (v : Option Value) (h : Heap) (L : List Loc) : Prop := ∃ b : Addr, ∃ kb : ClassId, v = none ∧ Fr n0 L ∧ Keep h0 h [a1] ∧ h0.size ≤ b ∧ Exa Z h a1 "java/lang/String" ∧ Fld Z h a1 "java/lang/String" "coder" "B" (.int (0 : Int32)) ∧ Fld Z h a1 "java/lang/String" "value" "[B" (.ref b) ∧ Arv Z h b kb .byte (1 : Int32) [(.int (nar .byte (v0.toInt8.toInt32)))] (.int (0 : Int32))
set_option maxRecDepth 65536 in
set_option maxHeartbeats 40000000 in
theorem rmI1_1 (l : Launch) (Z : State) (a0 : Array Value) (hw : ∀ d ∈ tables_1, d.before a0 Z = true) (ws : List Jvm.Cond) (a1 : Addr) (a2 : Addr) (cw : Int32) (k2 : ClassId) (v0 : Int32) (h0 : Heap) (n0 : Nat) (Z0 : n0 ≤ h0.size) (E_a1 : Exa Z h0 a1 "java/lang/String") (F_a1_value : Fld Z h0 a1 "java/lang/String" "value" "[B" .null) (F_a1_coder : Fld Z h0 a1 "java/lang/String" "coder" "B" (.int (0 : Int32))) (gg_a1 : n0 ≤ a1) (S_COMPACT_STRINGS : Sta Z h0 "java/lang/String" "COMPACT_STRINGS" "Z" (.int cw)) (hw0 : ¬ (cw = (0 : Int32))) (V_a2 : Arv Z h0 a2 k2 .char (1 : Int32) [(.int v0)] (.int (0 : Int32))) (hle_v0 : ¬ ((255 : Int32) < v0)) :
    MetFree l (⟨"java/lang/String", "<init>", "([C)V"⟩ : MethodName) (head1 (Jvm.Cond.code (⟨"java/lang/String", "<init>", "([C)V"⟩ : MethodName) jdk_42_method_3_code 2 none :: ws) ({ frames := 3, cells := 1, slots := 1, locals := 52 } : Room)) (fun a U => a = #[(.ref a1), (.ref a2)] ∧ Z.Warmed39 U.vm ∧ U.heap = h0) (fun _ _ _ _ _ => True) (fun _ U o U' => ∃ v L, o = .returned v ∧ QI1_1 Z a1 a2 cw k2 v0 h0 n0 v U'.heap L ∧ FrameEnd U o U' L ({ frames := 3, cells := 1, slots := 1, locals := 52 } : Room).cells ({ frames := 3, cells := 1, slots := 1, locals := 52 } : Room).slots) := by
  refine MetFree.of_bodySF (plainFor_of_name own_pn1) hisR ?_
  intro p e s m args below meth c s₁ Bd hml0 hP hK
  obtain ⟨rfl, hZ, hh⟩ := hP
  have hx := Bd.exec
  have hby := Bd.bytes
  have hml : c.maxLocals = 2 := hml0
  have hown : s.vm.findClass "java/lang/String" = some m.cls := findClass_of_methodNamed Bd.named
  have hnm := (name_of_methodNamed Bd.named Bd.method).1
  have X0 : Stand p l e ({ frames := 3, cells := 1, slots := 1, locals := 52 } : Room) s m #[(.ref a1), (.ref a2)] below meth c s₁ [] 0 0 := Stand.of_body Bd
  have e0 : s₁.heap = h0 := by rw [← hh, Bd.state]; rfl
  have N0 := Fr.nil n0
  have K0 : Keep h0 h0 [a1] := Keep.refl h0 _
  have pre0 : ∀ t, Steps p.tables e below (s₁.setTop (mkF m 0 #[.val (.ref a1), .val (.ref a2)] [])) t → Steps p.tables e below (s₁.setTop (entryFrame m #[(.ref a1), (.ref a2)] 2)) t := fun t k => castTop (own_ef_rmI1_1 m a1 a2) k
  obtain ⟨cl23, Ar23, q23, S23, M23, H23, G23⟩ := id V_a2
  obtain ⟨_, _, ⟨T24, L24, k24, n24⟩, -, X24, ⟨Lc24, hQ24, l24, y24, z24⟩, st24⟩ := X0.specialBack hx (y := (⟨"java/lang/String", "<init>", "([CIILjava/lang/Void;)V"⟩ : MethodName)) rfl hown (mvT hZ (hw _ (List.mem_of_getElem? (i := 14) rfl))) (mvT hZ (hw _ (List.mem_of_getElem? (i := 15) rfl))) (mvT hZ (hw _ (List.mem_of_getElem? (i := 17) rfl))) (by decide) (backOf (W := 0) (rmI4_1 l Z a0 hw [] a1 a2 cw k2 v0 h0 n0 (Nat.le_trans Z0 K0.1) E_a1 F_a1_value F_a1_coder gg_a1 S_COMPACT_STRINGS hw0 V_a2 hle_v0) hZ (hw _ (List.mem_of_getElem? (i := 17) rfl)) (hw _ (List.mem_of_getElem? (i := 9) rfl)) (by decide) (by decide)) (g := (mkF m 6 #[.val (.ref a1), .val (.ref a2)] [.null, (.int (1 : Int32)), (.int (0 : Int32)), (.ref a2), (.ref a1)])) rfl (by rw [hml]; rfl) (Steps.refl _) (a := a1) (argsL := [(.ref a2), (.int (0 : Int32)), (.int (1 : Int32)), .null]) (rest := []) (lenOf own_pd3 rfl) rfl (by show 2 * 0 + _ ≤ _; exact Nat.le_of_eq rfl) (hb hby own_d2_6) (fun _ _ => ⟨rfl, e0, (by decide : 0 + 1 ≤ _), (by decide : 0 + 1 ≤ _)⟩)
  dsimp only [Pt.U, Pt.locs, Pt.cells, Pt.slots] at X24 l24 y24 z24 st24 hQ24
  subst l24 y24 z24
  obtain ⟨b_24, kb_24, rfl, N24q, i24_4, i24_5, i24_6, i24_7, i24_8, i24_9⟩ := hQ24
  have N24 := Fr.app N0 N24q
  have ne_a1_b_24 : a1 ≠ b_24 := Nat.ne_of_lt (Nat.lt_of_lt_of_le E_a1.lt i24_5)
  have ne_a2_b_24 : a2 ≠ b_24 := Nat.ne_of_lt (Nat.lt_of_lt_of_le V_a2.lt i24_5)
  have gg_b_24 : n0 ≤ b_24 := Nat.le_trans (Nat.le_trans Z0 K0.1) i24_5
  have sz_b_24 : h0.size ≤ b_24 := Nat.le_trans K0.1 i24_5
  have K24 := K0.trans i24_4 (allS (Or.inl (List.mem_of_getElem? (i := 0) rfl)) all0)
  obtain ⟨fs, hr, hrun, hended, hW, hsame⟩ := X24.leave (v := none) (fun _ => rfl)
  refine ⟨_, _, pre0 _ ?_, hrun, hended, _, _, rfl, ?_, ⟨_, rfl⟩, hW, hsame.mono (by decide) (by decide)⟩
  · show Steps p.tables e below (s₁.setTop (mkF m 0 #[.val (.ref a1), .val (.ref a2)] [])) _
    refine XS.aloadN X0.here hx rfl (hb hby own_d2_0) rfl rfl ?_
    show Steps p.tables e below (s₁.setTop (mkF m 1 #[.val (.ref a1), .val (.ref a2)] [(.ref a1)])) _
    refine XS.aloadN X0.here hx rfl (hb hby own_d2_1) rfl rfl ?_
    show Steps p.tables e below (s₁.setTop (mkF m 2 #[.val (.ref a1), .val (.ref a2)] [(.ref a2), (.ref a1)])) _
    refine XS.iconst X0.here hx rfl (hb hby own_d2_2) ?_
    show Steps p.tables e below (s₁.setTop (mkF m 3 #[.val (.ref a1), .val (.ref a2)] [(.int (0 : Int32)), (.ref a2), (.ref a1)])) _
    refine XS.aloadN X0.here hx rfl (hb hby own_d2_3) rfl rfl ?_
    show Steps p.tables e below (s₁.setTop (mkF m 4 #[.val (.ref a1), .val (.ref a2)] [(.ref a2), (.int (0 : Int32)), (.ref a2), (.ref a1)])) _
    refine X0.arraylength hx (by rw [e0]; exact Ar23.1) (State.isArrayOf_alike hZ.alike Ar23.2.1) (g := (mkF m 4 #[.val (.ref a1), .val (.ref a2)] [(.ref a2), (.int (0 : Int32)), (.ref a2), (.ref a1)])) rfl rfl (hb hby own_d2_4) _ ?_
    rw [len_of S23 M23]
    show Steps p.tables e below (s₁.setTop (mkF m 5 #[.val (.ref a1), .val (.ref a2)] [(.int (1 : Int32)), (.int (0 : Int32)), (.ref a2), (.ref a1)])) _
    refine XS.aconstNull X0.here hx rfl (hb hby own_d2_5) ?_
    show Steps p.tables e below (s₁.setTop (mkF m 6 #[.val (.ref a1), .val (.ref a2)] [.null, (.int (1 : Int32)), (.int (0 : Int32)), (.ref a2), (.ref a1)])) _
    refine st24.trans ?_
    show Steps p.tables e below (T24.setTop (mkF m 9 #[.val (.ref a1), .val (.ref a2)] [])) _
    exact X24.returnOut hx Bd.returns (hb hby own_d2_9) hr
  · show QI1_1 Z a1 a2 cw k2 v0 h0 n0 _ T24.heap _
    exact ⟨b_24, kb_24, rfl, N24, K24, sz_b_24, i24_6, i24_7, i24_8, i24_9⟩
theorem own_ef_rmC5_2 (m : MethodId) (a1 : Addr) (a3 : Addr) : entryFrame m #[(.ref a1), (.int (0 : Int32)), (.ref a3), (.int (0 : Int32)), (.int (2 : Int32))] 7 = mkF m 0 #[.val (.ref a1), .val (.int (0 : Int32)), .val (.ref a3), .val (.int (0 : Int32)), .val (.int (2 : Int32)), .unset, .unset] [] := by first | (simp [entryFrame, mkF, argsToLocals, Value.category]; done) | rfl
def QC5_2 (Z : State) (a1 : Addr) (a3 : Addr) (k1 : ClassId) (k3 : ClassId) (v0 : Int32) (v1 : Int32) (h0 : Heap) (n0 : Nat) (v : Option Value) (h : Heap) (L : List Loc) : Prop := v = some (.int (2 : Int32)) ∧ Fr n0 L ∧ Keep h0 h [a3] ∧ Arv Z h a3 k3 .byte (2 : Int32) [(.int (nar .byte (v0.toInt8.toInt32))), (.int (nar .byte (v1.toInt8.toInt32)))] (.int (0 : Int32))
set_option maxRecDepth 65536 in
set_option maxHeartbeats 40000000 in
theorem rmC5_2 (l : Launch) (Z : State) (a0 : Array Value) (hw : ∀ d ∈ tables_1, d.before a0 Z = true) (ws : List Jvm.Cond) (a1 : Addr) (a3 : Addr) (k1 : ClassId) (k3 : ClassId) (v0 : Int32) (v1 : Int32) (h0 : Heap) (n0 : Nat) (Z0 : n0 ≤ h0.size) (V_a1 : Arv Z h0 a1 k1 .char (2 : Int32) [(.int v0), (.int v1)] (.int (0 : Int32))) (V_a3 : Arv Z h0 a3 k3 .byte (2 : Int32) [(.int (0 : Int32)), (.int (0 : Int32))] (.int (0 : Int32))) (gg_a3 : n0 ≤ a3) (ne_a1_a3 : a1 ≠ a3) (hle_v0 : ¬ ((255 : Int32) < v0)) (hle_v1 : ¬ ((255 : Int32) < v1)) :
    MetFree l (⟨"java/lang/StringUTF16", "compress", "([CI[BII)I"⟩ : MethodName) (head1 (Jvm.Cond.code (⟨"java/lang/StringUTF16", "compress", "([CI[BII)I"⟩ : MethodName) jdk_52_method_21_code 7 (some .int) :: ws) ({ frames := 0, cells := 0, slots := 0, locals := 0 } : Room)) (fun a U => a = #[(.ref a1), (.int (0 : Int32)), (.ref a3), (.int (0 : Int32)), (.int (2 : Int32))] ∧ Z.Warmed39 U.vm ∧ U.heap = h0) (fun _ _ _ _ _ => True) (fun _ U o U' => ∃ v L, o = .returned v ∧ QC5_2 Z a1 a3 k1 k3 v0 v1 h0 n0 v U'.heap L ∧ FrameEnd U o U' L ({ frames := 0, cells := 0, slots := 0, locals := 0 } : Room).cells ({ frames := 0, cells := 0, slots := 0, locals := 0 } : Room).slots) := by
  refine MetFree.of_bodySF (plainFor_of_name own_pn0) hisR ?_
  intro p e s m args below meth c s₁ Bd hml0 hP hK
  obtain ⟨rfl, hZ, hh⟩ := hP
  have hx := Bd.exec
  have hby := Bd.bytes
  have hml : c.maxLocals = 7 := hml0
  have hown : s.vm.findClass "java/lang/StringUTF16" = some m.cls := findClass_of_methodNamed Bd.named
  have hnm := (name_of_methodNamed Bd.named Bd.method).1
  have X0 : Stand p l e ({ frames := 0, cells := 0, slots := 0, locals := 0 } : Room) s m #[(.ref a1), (.int (0 : Int32)), (.ref a3), (.int (0 : Int32)), (.int (2 : Int32))] below meth c s₁ [] 0 0 := Stand.of_body Bd
  have e0 : s₁.heap = h0 := by rw [← hh, Bd.state]; rfl
  have N0 := Fr.nil n0
  have K0 : Keep h0 h0 [a3] := Keep.refl h0 _
  have pre0 : ∀ t, Steps p.tables e below (s₁.setTop (mkF m 0 #[.val (.ref a1), .val (.int (0 : Int32)), .val (.ref a3), .val (.int (0 : Int32)), .val (.int (2 : Int32)), .unset, .unset] [])) t → Steps p.tables e below (s₁.setTop (entryFrame m #[(.ref a1), (.int (0 : Int32)), (.ref a3), (.int (0 : Int32)), (.int (2 : Int32))] 7)) t := fun t k => castTop (own_ef_rmC5_2 m a1 a3) k
  obtain ⟨cl25, Ar25, q25, S25, M25, H25, G25⟩ := id V_a1
  have hin25 : ¬ ((0 : Int32) < 0 ∨ cl25.slots.size ≤ ((0 : Int32)).toNatClampNeg) := inb_of S25 ⟨by decide, by decide⟩
  have hat25 : cl25.slots[((0 : Int32)).toNatClampNeg]? = some (.int v0) := Has.at H25 hin25 rfl
  have hc20_26 : ¬ ((255 : Int32) < v0) := hle_v0
  obtain ⟨cl27, Ar27, q27, S27, M27, H27, G27⟩ := id V_a3
  have hin27 : ¬ ((0 : Int32) < 0 ∨ cl27.slots.size ≤ ((0 : Int32)).toNatClampNeg) := inb_of S27 ⟨by decide, by decide⟩
  obtain ⟨T28, h28, X28, e28, W28, st28⟩ := stB X0 hx hZ e0 Ar27 (j := (0 : Int32)) hin27 (g := (mkF m 31 #[.val (.ref a1), .val (.int (0 : Int32)), .val (.ref a3), .val (.int (0 : Int32)), .val (.int (2 : Int32)), .val (.int (0 : Int32)), .val (.int v0)] [(.int (v0.toInt8.toInt32)), (.int (0 : Int32)), (.ref a3)])) rfl rfl (hb hby own_d11_31)
  have V28 : Arv Z h28 a3 k3 .byte (2 : Int32) [(.int (nar .byte (v0.toInt8.toInt32))), (.int (0 : Int32))] (.int (0 : Int32)) := Arv.set Ar27 q27 S27 M27 H27 G27 (fits_nar_byte _) W28 0 rfl (Nat.le_of_ble_eq_true rfl)
  have K28 := K0.wr W28 (Or.inl (List.mem_of_getElem? (i := 0) rfl))
  have N28 := Fr.snoc X28 N0 gg_a3
  have Q30 := (V_a1.other W28 ne_a1_a3)
  obtain ⟨cl29, Ar29, q29, S29, M29, H29, G29⟩ := id Q30
  have hin29 : ¬ ((1 : Int32) < 0 ∨ cl29.slots.size ≤ ((1 : Int32)).toNatClampNeg) := inb_of S29 ⟨by decide, by decide⟩
  have hat29 : cl29.slots[((1 : Int32)).toNatClampNeg]? = some (.int v1) := Has.at H29 hin29 rfl
  have hc20_31 : ¬ ((255 : Int32) < v1) := hle_v1
  obtain ⟨cl32, Ar32, q32, S32, M32, H32, G32⟩ := id V28
  have hin32 : ¬ ((1 : Int32) < 0 ∨ cl32.slots.size ≤ ((1 : Int32)).toNatClampNeg) := inb_of S32 ⟨by decide, by decide⟩
  obtain ⟨T33, h33, X33, e33, W33, st33⟩ := stB X28 hx hZ e28 Ar32 (j := (1 : Int32)) hin32 (g := (mkF m 31 #[.val (.ref a1), .val (.int (1 : Int32)), .val (.ref a3), .val (.int (1 : Int32)), .val (.int (2 : Int32)), .val (.int (1 : Int32)), .val (.int v1)] [(.int (v1.toInt8.toInt32)), (.int (1 : Int32)), (.ref a3)])) rfl rfl (hb hby own_d11_31)
  have V33 : Arv Z h33 a3 k3 .byte (2 : Int32) [(.int (nar .byte (v0.toInt8.toInt32))), (.int (nar .byte (v1.toInt8.toInt32)))] (.int (0 : Int32)) := Arv.set Ar32 q32 S32 M32 H32 G32 (fits_nar_byte _) W33 1 rfl (Nat.le_of_ble_eq_true rfl)
  have K33 := K28.wr W33 (Or.inl (List.mem_of_getElem? (i := 0) rfl))
  have N33 := Fr.snoc X33 N28 gg_a3
  obtain ⟨fs, hr, hrun, hended, hW, hsame⟩ := X33.leave (v := some (.int (2 : Int32))) (fun h => by rw [Bd.returns] at h; cases h)
  refine ⟨_, _, pre0 _ ?_, hrun, hended, _, _, rfl, ?_, ⟨_, rfl⟩, hW, hsame.mono (by decide) (by decide)⟩
  · show Steps p.tables e below (s₁.setTop (mkF m 0 #[.val (.ref a1), .val (.int (0 : Int32)), .val (.ref a3), .val (.int (0 : Int32)), .val (.int (2 : Int32)), .unset, .unset] [])) _
    refine XS.iconst X0.here hx rfl (hb hby own_d11_0) ?_
    show Steps p.tables e below (s₁.setTop (mkF m 1 #[.val (.ref a1), .val (.int (0 : Int32)), .val (.ref a3), .val (.int (0 : Int32)), .val (.int (2 : Int32)), .unset, .unset] [(.int (0 : Int32))])) _
    refine XS.istore X0.here hx rfl (hb hby own_d11_1) rfl (l' := #[.val (.ref a1), .val (.int (0 : Int32)), .val (.ref a3), .val (.int (0 : Int32)), .val (.int (2 : Int32)), .val (.int (0 : Int32)), .unset]) rfl ?_
    show Steps p.tables e below (s₁.setTop (mkF m 3 #[.val (.ref a1), .val (.int (0 : Int32)), .val (.ref a3), .val (.int (0 : Int32)), .val (.int (2 : Int32)), .val (.int (0 : Int32)), .unset] [])) _
    refine XS.iload X0.here hx rfl (hb hby own_d11_3) rfl ?_
    show Steps p.tables e below (s₁.setTop (mkF m 5 #[.val (.ref a1), .val (.int (0 : Int32)), .val (.ref a3), .val (.int (0 : Int32)), .val (.int (2 : Int32)), .val (.int (0 : Int32)), .unset] [(.int (0 : Int32))])) _
    refine XS.iload X0.here hx rfl (hb hby own_d11_5) rfl ?_
    show Steps p.tables e below (s₁.setTop (mkF m 7 #[.val (.ref a1), .val (.int (0 : Int32)), .val (.ref a3), .val (.int (0 : Int32)), .val (.int (2 : Int32)), .val (.int (0 : Int32)), .unset] [(.int (2 : Int32)), (.int (0 : Int32))])) _
    refine XS.icmpNo X0.here hx rfl (hb hby own_d11_7) rfl (tlt (by decide : ((0 : Int32) < (2 : Int32)))).2.1 ?_
    show Steps p.tables e below (s₁.setTop (mkF m 10 #[.val (.ref a1), .val (.int (0 : Int32)), .val (.ref a3), .val (.int (0 : Int32)), .val (.int (2 : Int32)), .val (.int (0 : Int32)), .unset] [])) _
    refine XS.aloadN X0.here hx rfl (hb hby own_d11_10) rfl rfl ?_
    show Steps p.tables e below (s₁.setTop (mkF m 11 #[.val (.ref a1), .val (.int (0 : Int32)), .val (.ref a3), .val (.int (0 : Int32)), .val (.int (2 : Int32)), .val (.int (0 : Int32)), .unset] [(.ref a1)])) _
    refine XS.iloadN X0.here hx rfl (hb hby own_d11_11) rfl ?_
    show Steps p.tables e below (s₁.setTop (mkF m 12 #[.val (.ref a1), .val (.int (0 : Int32)), .val (.ref a3), .val (.int (0 : Int32)), .val (.int (2 : Int32)), .val (.int (0 : Int32)), .unset] [(.int (0 : Int32)), (.ref a1)])) _
    refine X0.caload hx (j := (0 : Int32)) (v := (.int v0)) (by rw [e0]; exact Ar25.1) (State.isArrayOf_alike hZ.alike Ar25.2.1) Ar25.2.2 hin25 hat25 (g := (mkF m 12 #[.val (.ref a1), .val (.int (0 : Int32)), .val (.ref a3), .val (.int (0 : Int32)), .val (.int (2 : Int32)), .val (.int (0 : Int32)), .unset] [(.int (0 : Int32)), (.ref a1)])) rfl rfl (hb hby own_d11_12) _ ?_
    show Steps p.tables e below (s₁.setTop (mkF m 13 #[.val (.ref a1), .val (.int (0 : Int32)), .val (.ref a3), .val (.int (0 : Int32)), .val (.int (2 : Int32)), .val (.int (0 : Int32)), .unset] [(.int v0)])) _
    refine XS.istore X0.here hx rfl (hb hby own_d11_13) rfl (l' := #[.val (.ref a1), .val (.int (0 : Int32)), .val (.ref a3), .val (.int (0 : Int32)), .val (.int (2 : Int32)), .val (.int (0 : Int32)), .val (.int v0)]) rfl ?_
    show Steps p.tables e below (s₁.setTop (mkF m 15 #[.val (.ref a1), .val (.int (0 : Int32)), .val (.ref a3), .val (.int (0 : Int32)), .val (.int (2 : Int32)), .val (.int (0 : Int32)), .val (.int v0)] [])) _
    refine XS.iload X0.here hx rfl (hb hby own_d11_15) rfl ?_
    show Steps p.tables e below (s₁.setTop (mkF m 17 #[.val (.ref a1), .val (.int (0 : Int32)), .val (.ref a3), .val (.int (0 : Int32)), .val (.int (2 : Int32)), .val (.int (0 : Int32)), .val (.int v0)] [(.int v0)])) _
    refine XS.sipush X0.here hx rfl (hb hby own_d11_17) ?_
    show Steps p.tables e below (s₁.setTop (mkF m 20 #[.val (.ref a1), .val (.int (0 : Int32)), .val (.ref a3), .val (.int (0 : Int32)), .val (.int (2 : Int32)), .val (.int (0 : Int32)), .val (.int v0)] [(.int (255 : Int32)), (.int v0)])) _
    refine XS.icmpYes X0.here hx rfl (pc0 := 20) (pc' := 26) rfl (hb hby own_d11_20) rfl (flt hc20_26).2.2.2 (by decide) (by decide) ?_
    show Steps p.tables e below (s₁.setTop (mkF m 26 #[.val (.ref a1), .val (.int (0 : Int32)), .val (.ref a3), .val (.int (0 : Int32)), .val (.int (2 : Int32)), .val (.int (0 : Int32)), .val (.int v0)] [])) _
    refine XS.aloadN X0.here hx rfl (hb hby own_d11_26) rfl rfl ?_
    show Steps p.tables e below (s₁.setTop (mkF m 27 #[.val (.ref a1), .val (.int (0 : Int32)), .val (.ref a3), .val (.int (0 : Int32)), .val (.int (2 : Int32)), .val (.int (0 : Int32)), .val (.int v0)] [(.ref a3)])) _
    refine XS.iloadN X0.here hx rfl (hb hby own_d11_27) rfl ?_
    show Steps p.tables e below (s₁.setTop (mkF m 28 #[.val (.ref a1), .val (.int (0 : Int32)), .val (.ref a3), .val (.int (0 : Int32)), .val (.int (2 : Int32)), .val (.int (0 : Int32)), .val (.int v0)] [(.int (0 : Int32)), (.ref a3)])) _
    refine XS.iload X0.here hx rfl (hb hby own_d11_28) rfl ?_
    show Steps p.tables e below (s₁.setTop (mkF m 30 #[.val (.ref a1), .val (.int (0 : Int32)), .val (.ref a3), .val (.int (0 : Int32)), .val (.int (2 : Int32)), .val (.int (0 : Int32)), .val (.int v0)] [(.int v0), (.int (0 : Int32)), (.ref a3)])) _
    refine XS.i2b X0.here hx rfl (hb hby own_d11_30) rfl ?_
    show Steps p.tables e below (s₁.setTop (mkF m 31 #[.val (.ref a1), .val (.int (0 : Int32)), .val (.ref a3), .val (.int (0 : Int32)), .val (.int (2 : Int32)), .val (.int (0 : Int32)), .val (.int v0)] [(.int (v0.toInt8.toInt32)), (.int (0 : Int32)), (.ref a3)])) _
    refine st28 _ ?_
    show Steps p.tables e below (T28.setTop (mkF m 32 #[.val (.ref a1), .val (.int (0 : Int32)), .val (.ref a3), .val (.int (0 : Int32)), .val (.int (2 : Int32)), .val (.int (0 : Int32)), .val (.int v0)] [])) _
    refine XS.iinc X28.here hx rfl (hb hby own_d11_32) rfl (l' := #[.val (.ref a1), .val (.int (1 : Int32)), .val (.ref a3), .val (.int (0 : Int32)), .val (.int (2 : Int32)), .val (.int (0 : Int32)), .val (.int v0)]) rfl ?_
    show Steps p.tables e below (T28.setTop (mkF m 35 #[.val (.ref a1), .val (.int (1 : Int32)), .val (.ref a3), .val (.int (0 : Int32)), .val (.int (2 : Int32)), .val (.int (0 : Int32)), .val (.int v0)] [])) _
    refine XS.iinc X28.here hx rfl (hb hby own_d11_35) rfl (l' := #[.val (.ref a1), .val (.int (1 : Int32)), .val (.ref a3), .val (.int (1 : Int32)), .val (.int (2 : Int32)), .val (.int (0 : Int32)), .val (.int v0)]) rfl ?_
    show Steps p.tables e below (T28.setTop (mkF m 38 #[.val (.ref a1), .val (.int (1 : Int32)), .val (.ref a3), .val (.int (1 : Int32)), .val (.int (2 : Int32)), .val (.int (0 : Int32)), .val (.int v0)] [])) _
    refine XS.iinc X28.here hx rfl (hb hby own_d11_38) rfl (l' := #[.val (.ref a1), .val (.int (1 : Int32)), .val (.ref a3), .val (.int (1 : Int32)), .val (.int (2 : Int32)), .val (.int (1 : Int32)), .val (.int v0)]) rfl ?_
    show Steps p.tables e below (T28.setTop (mkF m 41 #[.val (.ref a1), .val (.int (1 : Int32)), .val (.ref a3), .val (.int (1 : Int32)), .val (.int (2 : Int32)), .val (.int (1 : Int32)), .val (.int v0)] [])) _
    refine XS.goto X28.here hx rfl (pc0 := 41) (pc' := 3) rfl (hb hby own_d11_41) (by decide) (by decide) ?_
    show Steps p.tables e below (T28.setTop (mkF m 3 #[.val (.ref a1), .val (.int (1 : Int32)), .val (.ref a3), .val (.int (1 : Int32)), .val (.int (2 : Int32)), .val (.int (1 : Int32)), .val (.int v0)] [])) _
    refine XS.iload X28.here hx rfl (hb hby own_d11_3) rfl ?_
    show Steps p.tables e below (T28.setTop (mkF m 5 #[.val (.ref a1), .val (.int (1 : Int32)), .val (.ref a3), .val (.int (1 : Int32)), .val (.int (2 : Int32)), .val (.int (1 : Int32)), .val (.int v0)] [(.int (1 : Int32))])) _
    refine XS.iload X28.here hx rfl (hb hby own_d11_5) rfl ?_
    show Steps p.tables e below (T28.setTop (mkF m 7 #[.val (.ref a1), .val (.int (1 : Int32)), .val (.ref a3), .val (.int (1 : Int32)), .val (.int (2 : Int32)), .val (.int (1 : Int32)), .val (.int v0)] [(.int (2 : Int32)), (.int (1 : Int32))])) _
    refine XS.icmpNo X28.here hx rfl (hb hby own_d11_7) rfl (tlt (by decide : ((1 : Int32) < (2 : Int32)))).2.1 ?_
    show Steps p.tables e below (T28.setTop (mkF m 10 #[.val (.ref a1), .val (.int (1 : Int32)), .val (.ref a3), .val (.int (1 : Int32)), .val (.int (2 : Int32)), .val (.int (1 : Int32)), .val (.int v0)] [])) _
    refine XS.aloadN X28.here hx rfl (hb hby own_d11_10) rfl rfl ?_
    show Steps p.tables e below (T28.setTop (mkF m 11 #[.val (.ref a1), .val (.int (1 : Int32)), .val (.ref a3), .val (.int (1 : Int32)), .val (.int (2 : Int32)), .val (.int (1 : Int32)), .val (.int v0)] [(.ref a1)])) _
    refine XS.iloadN X28.here hx rfl (hb hby own_d11_11) rfl ?_
    show Steps p.tables e below (T28.setTop (mkF m 12 #[.val (.ref a1), .val (.int (1 : Int32)), .val (.ref a3), .val (.int (1 : Int32)), .val (.int (2 : Int32)), .val (.int (1 : Int32)), .val (.int v0)] [(.int (1 : Int32)), (.ref a1)])) _
    refine X28.caload hx (j := (1 : Int32)) (v := (.int v1)) (by rw [e28]; exact Ar29.1) (State.isArrayOf_alike hZ.alike Ar29.2.1) Ar29.2.2 hin29 hat29 (g := (mkF m 12 #[.val (.ref a1), .val (.int (1 : Int32)), .val (.ref a3), .val (.int (1 : Int32)), .val (.int (2 : Int32)), .val (.int (1 : Int32)), .val (.int v0)] [(.int (1 : Int32)), (.ref a1)])) rfl rfl (hb hby own_d11_12) _ ?_
    show Steps p.tables e below (T28.setTop (mkF m 13 #[.val (.ref a1), .val (.int (1 : Int32)), .val (.ref a3), .val (.int (1 : Int32)), .val (.int (2 : Int32)), .val (.int (1 : Int32)), .val (.int v0)] [(.int v1)])) _
    refine XS.istore X28.here hx rfl (hb hby own_d11_13) rfl (l' := #[.val (.ref a1), .val (.int (1 : Int32)), .val (.ref a3), .val (.int (1 : Int32)), .val (.int (2 : Int32)), .val (.int (1 : Int32)), .val (.int v1)]) rfl ?_
    show Steps p.tables e below (T28.setTop (mkF m 15 #[.val (.ref a1), .val (.int (1 : Int32)), .val (.ref a3), .val (.int (1 : Int32)), .val (.int (2 : Int32)), .val (.int (1 : Int32)), .val (.int v1)] [])) _
    refine XS.iload X28.here hx rfl (hb hby own_d11_15) rfl ?_
    show Steps p.tables e below (T28.setTop (mkF m 17 #[.val (.ref a1), .val (.int (1 : Int32)), .val (.ref a3), .val (.int (1 : Int32)), .val (.int (2 : Int32)), .val (.int (1 : Int32)), .val (.int v1)] [(.int v1)])) _
    refine XS.sipush X28.here hx rfl (hb hby own_d11_17) ?_
    show Steps p.tables e below (T28.setTop (mkF m 20 #[.val (.ref a1), .val (.int (1 : Int32)), .val (.ref a3), .val (.int (1 : Int32)), .val (.int (2 : Int32)), .val (.int (1 : Int32)), .val (.int v1)] [(.int (255 : Int32)), (.int v1)])) _
    refine XS.icmpYes X28.here hx rfl (pc0 := 20) (pc' := 26) rfl (hb hby own_d11_20) rfl (flt hc20_31).2.2.2 (by decide) (by decide) ?_
    show Steps p.tables e below (T28.setTop (mkF m 26 #[.val (.ref a1), .val (.int (1 : Int32)), .val (.ref a3), .val (.int (1 : Int32)), .val (.int (2 : Int32)), .val (.int (1 : Int32)), .val (.int v1)] [])) _
    refine XS.aloadN X28.here hx rfl (hb hby own_d11_26) rfl rfl ?_
    show Steps p.tables e below (T28.setTop (mkF m 27 #[.val (.ref a1), .val (.int (1 : Int32)), .val (.ref a3), .val (.int (1 : Int32)), .val (.int (2 : Int32)), .val (.int (1 : Int32)), .val (.int v1)] [(.ref a3)])) _
    refine XS.iloadN X28.here hx rfl (hb hby own_d11_27) rfl ?_
    show Steps p.tables e below (T28.setTop (mkF m 28 #[.val (.ref a1), .val (.int (1 : Int32)), .val (.ref a3), .val (.int (1 : Int32)), .val (.int (2 : Int32)), .val (.int (1 : Int32)), .val (.int v1)] [(.int (1 : Int32)), (.ref a3)])) _
    refine XS.iload X28.here hx rfl (hb hby own_d11_28) rfl ?_
    show Steps p.tables e below (T28.setTop (mkF m 30 #[.val (.ref a1), .val (.int (1 : Int32)), .val (.ref a3), .val (.int (1 : Int32)), .val (.int (2 : Int32)), .val (.int (1 : Int32)), .val (.int v1)] [(.int v1), (.int (1 : Int32)), (.ref a3)])) _
    refine XS.i2b X28.here hx rfl (hb hby own_d11_30) rfl ?_
    show Steps p.tables e below (T28.setTop (mkF m 31 #[.val (.ref a1), .val (.int (1 : Int32)), .val (.ref a3), .val (.int (1 : Int32)), .val (.int (2 : Int32)), .val (.int (1 : Int32)), .val (.int v1)] [(.int (v1.toInt8.toInt32)), (.int (1 : Int32)), (.ref a3)])) _
    refine st33 _ ?_
    show Steps p.tables e below (T33.setTop (mkF m 32 #[.val (.ref a1), .val (.int (1 : Int32)), .val (.ref a3), .val (.int (1 : Int32)), .val (.int (2 : Int32)), .val (.int (1 : Int32)), .val (.int v1)] [])) _
    refine XS.iinc X33.here hx rfl (hb hby own_d11_32) rfl (l' := #[.val (.ref a1), .val (.int (2 : Int32)), .val (.ref a3), .val (.int (1 : Int32)), .val (.int (2 : Int32)), .val (.int (1 : Int32)), .val (.int v1)]) rfl ?_
    show Steps p.tables e below (T33.setTop (mkF m 35 #[.val (.ref a1), .val (.int (2 : Int32)), .val (.ref a3), .val (.int (1 : Int32)), .val (.int (2 : Int32)), .val (.int (1 : Int32)), .val (.int v1)] [])) _
    refine XS.iinc X33.here hx rfl (hb hby own_d11_35) rfl (l' := #[.val (.ref a1), .val (.int (2 : Int32)), .val (.ref a3), .val (.int (2 : Int32)), .val (.int (2 : Int32)), .val (.int (1 : Int32)), .val (.int v1)]) rfl ?_
    show Steps p.tables e below (T33.setTop (mkF m 38 #[.val (.ref a1), .val (.int (2 : Int32)), .val (.ref a3), .val (.int (2 : Int32)), .val (.int (2 : Int32)), .val (.int (1 : Int32)), .val (.int v1)] [])) _
    refine XS.iinc X33.here hx rfl (hb hby own_d11_38) rfl (l' := #[.val (.ref a1), .val (.int (2 : Int32)), .val (.ref a3), .val (.int (2 : Int32)), .val (.int (2 : Int32)), .val (.int (2 : Int32)), .val (.int v1)]) rfl ?_
    show Steps p.tables e below (T33.setTop (mkF m 41 #[.val (.ref a1), .val (.int (2 : Int32)), .val (.ref a3), .val (.int (2 : Int32)), .val (.int (2 : Int32)), .val (.int (2 : Int32)), .val (.int v1)] [])) _
    refine XS.goto X33.here hx rfl (pc0 := 41) (pc' := 3) rfl (hb hby own_d11_41) (by decide) (by decide) ?_
    show Steps p.tables e below (T33.setTop (mkF m 3 #[.val (.ref a1), .val (.int (2 : Int32)), .val (.ref a3), .val (.int (2 : Int32)), .val (.int (2 : Int32)), .val (.int (2 : Int32)), .val (.int v1)] [])) _
    refine XS.iload X33.here hx rfl (hb hby own_d11_3) rfl ?_
    show Steps p.tables e below (T33.setTop (mkF m 5 #[.val (.ref a1), .val (.int (2 : Int32)), .val (.ref a3), .val (.int (2 : Int32)), .val (.int (2 : Int32)), .val (.int (2 : Int32)), .val (.int v1)] [(.int (2 : Int32))])) _
    refine XS.iload X33.here hx rfl (hb hby own_d11_5) rfl ?_
    show Steps p.tables e below (T33.setTop (mkF m 7 #[.val (.ref a1), .val (.int (2 : Int32)), .val (.ref a3), .val (.int (2 : Int32)), .val (.int (2 : Int32)), .val (.int (2 : Int32)), .val (.int v1)] [(.int (2 : Int32)), (.int (2 : Int32))])) _
    refine XS.icmpYes X33.here hx rfl (pc0 := 7) (pc' := 44) rfl (hb hby own_d11_7) rfl (flt (by decide : ¬ ((2 : Int32) < (2 : Int32)))).2.1 (by decide) (by decide) ?_
    show Steps p.tables e below (T33.setTop (mkF m 44 #[.val (.ref a1), .val (.int (2 : Int32)), .val (.ref a3), .val (.int (2 : Int32)), .val (.int (2 : Int32)), .val (.int (2 : Int32)), .val (.int v1)] [])) _
    refine XS.iload X33.here hx rfl (hb hby own_d11_44) rfl ?_
    show Steps p.tables e below (T33.setTop (mkF m 46 #[.val (.ref a1), .val (.int (2 : Int32)), .val (.ref a3), .val (.int (2 : Int32)), .val (.int (2 : Int32)), .val (.int (2 : Int32)), .val (.int v1)] [(.int (2 : Int32))])) _
    exact retI X33 hx Bd.returns (hb hby own_d11_46) hr
  · show QC5_2 Z a1 a3 k1 k3 v0 v1 h0 n0 _ T33.heap _
    rw [e33]
    exact ⟨rfl, N33, K33, V33⟩
theorem own_ef_rmC3_2 (m : MethodId) (a1 : Addr) : entryFrame m #[(.ref a1), (.int (0 : Int32)), (.int (2 : Int32))] 6 = mkF m 0 #[.val (.ref a1), .val (.int (0 : Int32)), .val (.int (2 : Int32)), .unset, .unset, .unset] [] := by first | (simp [entryFrame, mkF, argsToLocals, Value.category]; done) | rfl
def QC3_2 (Z : State) (a1 : Addr) (k1 : ClassId) (v0 : Int32) (v1 : Int32) (h0 : Heap) (n0 : Nat) (v : Option Value) (h : Heap) (L : List Loc) : Prop := ∃ b : Addr, ∃ kb : ClassId, v = some (.ref b) ∧ Fr n0 L ∧ Keep h0 h [] ∧ h0.size ≤ b ∧ Arv Z h b kb .byte (2 : Int32) [(.int (nar .byte (v0.toInt8.toInt32))), (.int (nar .byte (v1.toInt8.toInt32)))] (.int (0 : Int32))
set_option maxRecDepth 65536 in
set_option maxHeartbeats 40000000 in
theorem rmC3_2 (l : Launch) (Z : State) (a0 : Array Value) (hw : ∀ d ∈ tables_1, d.before a0 Z = true) (ws : List Jvm.Cond) (a1 : Addr) (k1 : ClassId) (v0 : Int32) (v1 : Int32) (h0 : Heap) (n0 : Nat) (Z0 : n0 ≤ h0.size) (V_a1 : Arv Z h0 a1 k1 .char (2 : Int32) [(.int v0), (.int v1)] (.int (0 : Int32))) (hle_v0 : ¬ ((255 : Int32) < v0)) (hle_v1 : ¬ ((255 : Int32) < v1)) :
    MetFree l (⟨"java/lang/StringUTF16", "compress", "([CII)[B"⟩ : MethodName) (head1 (Jvm.Cond.code (⟨"java/lang/StringUTF16", "compress", "([CII)[B"⟩ : MethodName) jdk_52_method_16_code 6 (some (.array .byte)) :: ws) ({ frames := 1, cells := 1, slots := 2, locals := 18 } : Room)) (fun a U => a = #[(.ref a1), (.int (0 : Int32)), (.int (2 : Int32))] ∧ Z.Warmed39 U.vm ∧ U.heap = h0) (fun _ _ _ _ _ => True) (fun _ U o U' => ∃ v L, o = .returned v ∧ QC3_2 Z a1 k1 v0 v1 h0 n0 v U'.heap L ∧ FrameEnd U o U' L ({ frames := 1, cells := 1, slots := 2, locals := 18 } : Room).cells ({ frames := 1, cells := 1, slots := 2, locals := 18 } : Room).slots) := by
  refine MetFree.of_bodySF (plainFor_of_name own_pn0) hisR ?_
  intro p e s m args below meth c s₁ Bd hml0 hP hK
  obtain ⟨rfl, hZ, hh⟩ := hP
  have hx := Bd.exec
  have hby := Bd.bytes
  have hml : c.maxLocals = 6 := hml0
  have hown : s.vm.findClass "java/lang/StringUTF16" = some m.cls := findClass_of_methodNamed Bd.named
  have hnm := (name_of_methodNamed Bd.named Bd.method).1
  have X0 : Stand p l e ({ frames := 1, cells := 1, slots := 2, locals := 18 } : Room) s m #[(.ref a1), (.int (0 : Int32)), (.int (2 : Int32))] below meth c s₁ [] 0 0 := Stand.of_body Bd
  have e0 : s₁.heap = h0 := by rw [← hh, Bd.state]; rfl
  have N0 := Fr.nil n0
  have K0 : Keep h0 h0 [] := Keep.refl h0 _
  have pre0 : ∀ t, Steps p.tables e below (s₁.setTop (mkF m 0 #[.val (.ref a1), .val (.int (0 : Int32)), .val (.int (2 : Int32)), .unset, .unset, .unset] [])) t → Steps p.tables e below (s₁.setTop (entryFrame m #[(.ref a1), (.int (0 : Int32)), (.int (2 : Int32))] 6)) t := fun t k => castTop (own_ef_rmC3_2 m a1) k
  obtain ⟨T34, h34, k34, X34, e34, E34, A34, st34⟩ := newP X0 hx hZ (hw _ (List.mem_of_getElem? (i := 22) rfl)) e0 (g := (mkF m 1 #[.val (.ref a1), .val (.int (0 : Int32)), .val (.int (2 : Int32)), .unset, .unset, .unset] [(.int (2 : Int32))])) rfl (hb hby own_d10_1) rfl (by decide) (cap := 2) (by decide) (by decide) (by decide) (by decide)
  obtain ⟨b34, g34⟩ : ∃ z, z = h0.size := ⟨_, rfl⟩
  rw [← g34] at A34 st34
  have ne_a1_b34 : a1 ≠ b34 := Nat.ne_of_lt (Nat.lt_of_lt_of_le V_a1.lt (Nat.le_of_eq g34.symm))
  have gg_b34 : n0 ≤ b34 := Nat.le_trans (Nat.le_trans Z0 K0.1) (Nat.le_of_eq g34.symm)
  have sz_b34 : h0.size ≤ b34 := Nat.le_trans K0.1 (Nat.le_of_eq g34.symm)
  have K34 := K0.ext E34
  have V34 : Arv Z h34 b34 k34 .byte (2 : Int32) [(.int (0 : Int32)), (.int (0 : Int32))] (.int (0 : Int32)) := (Arv.new A34 (by decide)).pad (pad_rep [] (.int (0 : Int32)) 2)
  have Q35 := (V_a1.ext E34)
  obtain ⟨_, _, ⟨T36, L36, k36, n36⟩, -, X36, ⟨Lc36, hQ36, l36, y36, z36⟩, st36⟩ := Jvm.LawKit.callS X34 hx (y := (⟨"java/lang/StringUTF16", "compress", "([CI[BII)I"⟩ : MethodName)) hown (mvT hZ (hw _ (List.mem_of_getElem? (i := 62) rfl))) (mvT hZ (hw _ (List.mem_of_getElem? (i := 63) rfl))) (mvT hZ (hw _ (List.mem_of_getElem? (i := 60) rfl))) (mvT hZ (hw _ (List.mem_of_getElem? (i := 64) rfl))) (by decide) (backOf (W := 0) (rmC5_2 l Z a0 hw [] a1 b34 k1 k34 v0 v1 h34 n0 (Nat.le_trans Z0 K34.1) Q35 V34 gg_b34 ne_a1_b34 hle_v0 hle_v1) hZ (hw _ (List.mem_of_getElem? (i := 64) rfl)) (hw _ (List.mem_of_getElem? (i := 60) rfl)) (by decide) (by decide)) (g := (mkF m 9 #[.val (.ref a1), .val (.int (0 : Int32)), .val (.int (2 : Int32)), .val (.ref b34), .unset, .unset] [(.int (2 : Int32)), (.int (0 : Int32)), (.ref b34), (.int (0 : Int32)), (.ref a1)])) rfl (by rw [hml]; rfl) (argsL := [(.ref a1), (.int (0 : Int32)), (.ref b34), (.int (0 : Int32)), (.int (2 : Int32))]) (rest := []) (lenOf own_pd0 rfl) rfl (by show 2 * 0 + _ ≤ _; exact Nat.le_of_eq rfl) (hb hby own_d10_9) (fun _ _ => ⟨rfl, e34, (by decide : 1 + 0 ≤ _), (by decide : 2 + 0 ≤ _)⟩)
  dsimp only [Pt.U, Pt.locs, Pt.cells, Pt.slots] at X36 l36 y36 z36 st36 hQ36
  subst l36 y36 z36
  obtain ⟨rfl, N36q, i36_2, i36_3⟩ := hQ36
  have N36 := Fr.app N0 N36q
  have K36 := K34.trans i36_2 (allS (Or.inr sz_b34) all0)
  obtain ⟨fs, hr, hrun, hended, hW, hsame⟩ := X36.leave (v := some (.ref b34)) (fun h => by rw [Bd.returns] at h; cases h)
  refine ⟨_, _, pre0 _ ?_, hrun, hended, _, _, rfl, ?_, ⟨_, rfl⟩, hW, hsame.mono (by decide) (by decide)⟩
  · show Steps p.tables e below (s₁.setTop (mkF m 0 #[.val (.ref a1), .val (.int (0 : Int32)), .val (.int (2 : Int32)), .unset, .unset, .unset] [])) _
    refine XS.iloadN X0.here hx rfl (hb hby own_d10_0) rfl ?_
    show Steps p.tables e below (s₁.setTop (mkF m 1 #[.val (.ref a1), .val (.int (0 : Int32)), .val (.int (2 : Int32)), .unset, .unset, .unset] [(.int (2 : Int32))])) _
    refine st34 _ ?_
    show Steps p.tables e below (T34.setTop (mkF m 3 #[.val (.ref a1), .val (.int (0 : Int32)), .val (.int (2 : Int32)), .unset, .unset, .unset] [(.ref b34)])) _
    refine XS.astoreN X34.here hx rfl (hb hby own_d10_3) rfl rfl (l' := #[.val (.ref a1), .val (.int (0 : Int32)), .val (.int (2 : Int32)), .val (.ref b34), .unset, .unset]) rfl ?_
    show Steps p.tables e below (T34.setTop (mkF m 4 #[.val (.ref a1), .val (.int (0 : Int32)), .val (.int (2 : Int32)), .val (.ref b34), .unset, .unset] [])) _
    refine XS.aloadN X34.here hx rfl (hb hby own_d10_4) rfl rfl ?_
    show Steps p.tables e below (T34.setTop (mkF m 5 #[.val (.ref a1), .val (.int (0 : Int32)), .val (.int (2 : Int32)), .val (.ref b34), .unset, .unset] [(.ref a1)])) _
    refine XS.iloadN X34.here hx rfl (hb hby own_d10_5) rfl ?_
    show Steps p.tables e below (T34.setTop (mkF m 6 #[.val (.ref a1), .val (.int (0 : Int32)), .val (.int (2 : Int32)), .val (.ref b34), .unset, .unset] [(.int (0 : Int32)), (.ref a1)])) _
    refine XS.aloadN X34.here hx rfl (hb hby own_d10_6) rfl rfl ?_
    show Steps p.tables e below (T34.setTop (mkF m 7 #[.val (.ref a1), .val (.int (0 : Int32)), .val (.int (2 : Int32)), .val (.ref b34), .unset, .unset] [(.ref b34), (.int (0 : Int32)), (.ref a1)])) _
    refine XS.iconst X34.here hx rfl (hb hby own_d10_7) ?_
    show Steps p.tables e below (T34.setTop (mkF m 8 #[.val (.ref a1), .val (.int (0 : Int32)), .val (.int (2 : Int32)), .val (.ref b34), .unset, .unset] [(.int (0 : Int32)), (.ref b34), (.int (0 : Int32)), (.ref a1)])) _
    refine XS.iloadN X34.here hx rfl (hb hby own_d10_8) rfl ?_
    show Steps p.tables e below (T34.setTop (mkF m 9 #[.val (.ref a1), .val (.int (0 : Int32)), .val (.int (2 : Int32)), .val (.ref b34), .unset, .unset] [(.int (2 : Int32)), (.int (0 : Int32)), (.ref b34), (.int (0 : Int32)), (.ref a1)])) _
    refine st36 _ ?_
    show Steps p.tables e below (T36.setTop (mkF m 12 #[.val (.ref a1), .val (.int (0 : Int32)), .val (.int (2 : Int32)), .val (.ref b34), .unset, .unset] [(.int (2 : Int32))])) _
    refine XS.istore X36.here hx rfl (hb hby own_d10_12) rfl (l' := #[.val (.ref a1), .val (.int (0 : Int32)), .val (.int (2 : Int32)), .val (.ref b34), .val (.int (2 : Int32)), .unset]) rfl ?_
    show Steps p.tables e below (T36.setTop (mkF m 14 #[.val (.ref a1), .val (.int (0 : Int32)), .val (.int (2 : Int32)), .val (.ref b34), .val (.int (2 : Int32)), .unset] [])) _
    refine XS.iload X36.here hx rfl (hb hby own_d10_14) rfl ?_
    show Steps p.tables e below (T36.setTop (mkF m 16 #[.val (.ref a1), .val (.int (0 : Int32)), .val (.int (2 : Int32)), .val (.ref b34), .val (.int (2 : Int32)), .unset] [(.int (2 : Int32))])) _
    refine XS.iloadN X36.here hx rfl (hb hby own_d10_16) rfl ?_
    show Steps p.tables e below (T36.setTop (mkF m 17 #[.val (.ref a1), .val (.int (0 : Int32)), .val (.int (2 : Int32)), .val (.ref b34), .val (.int (2 : Int32)), .unset] [(.int (2 : Int32)), (.int (2 : Int32))])) _
    refine XS.icmpYes X36.here hx rfl (pc0 := 17) (pc' := 57) rfl (hb hby own_d10_17) rfl (teq (by decide : ((2 : Int32) = (2 : Int32)))).1 (by decide) (by decide) ?_
    show Steps p.tables e below (T36.setTop (mkF m 57 #[.val (.ref a1), .val (.int (0 : Int32)), .val (.int (2 : Int32)), .val (.ref b34), .val (.int (2 : Int32)), .unset] [])) _
    refine XS.aloadN X36.here hx rfl (hb hby own_d10_57) rfl rfl ?_
    show Steps p.tables e below (T36.setTop (mkF m 58 #[.val (.ref a1), .val (.int (0 : Int32)), .val (.int (2 : Int32)), .val (.ref b34), .val (.int (2 : Int32)), .unset] [(.ref b34)])) _
    jvm_step X36.here [X36.here.top, hx, (hb hby own_d10_58), X36.method', Bd.returns, Value.isRef, FieldType.isReference]
    first | (intro acts; rw [hr _ acts rfl rfl rfl]) | rw [hr _ _ rfl rfl rfl]
    exact Steps.refl _
  · show QC3_2 Z a1 k1 v0 v1 h0 n0 _ T36.heap _
    exact ⟨b34, k34, rfl, N36, K36, sz_b34, i36_3⟩
theorem own_ef_rmCo_2 (m : MethodId) (a1 : Addr) : entryFrame m #[(.ref a1), (.int (2 : Int32))] 2 = mkF m 0 #[.val (.ref a1), .val (.int (2 : Int32))] [] := by first | (simp [entryFrame, mkF, argsToLocals, Value.category]; done) | rfl
def QCo_2 (Z : State) (a1 : Addr) (k1 : ClassId) (v0 : Int32) (v1 : Int32) (h0 : Heap) (n0 : Nat) (v : Option Value) (h : Heap) (L : List Loc) : Prop := v = some (.int (0 : Int32)) ∧ Fr n0 L ∧ h = h0
set_option maxRecDepth 65536 in
set_option maxHeartbeats 40000000 in
theorem rmCo_2 (l : Launch) (Z : State) (a0 : Array Value) (hw : ∀ d ∈ tables_1, d.before a0 Z = true) (ws : List Jvm.Cond) (a1 : Addr) (k1 : ClassId) (v0 : Int32) (v1 : Int32) (h0 : Heap) (n0 : Nat) (Z0 : n0 ≤ h0.size) (V_a1 : Arv Z h0 a1 k1 .byte (2 : Int32) [(.int v0), (.int v1)] (.int (0 : Int32))) :
    MetFree l (⟨"java/lang/StringUTF16", "coderFromArrayLen", "([BI)B"⟩ : MethodName) (head1 (Jvm.Cond.code (⟨"java/lang/StringUTF16", "coderFromArrayLen", "([BI)B"⟩ : MethodName) jdk_52_method_15_code 2 (some .byte) :: ws) ({ frames := 0, cells := 0, slots := 0, locals := 0 } : Room)) (fun a U => a = #[(.ref a1), (.int (2 : Int32))] ∧ Z.Warmed39 U.vm ∧ U.heap = h0) (fun _ _ _ _ _ => True) (fun _ U o U' => ∃ v L, o = .returned v ∧ QCo_2 Z a1 k1 v0 v1 h0 n0 v U'.heap L ∧ FrameEnd U o U' L ({ frames := 0, cells := 0, slots := 0, locals := 0 } : Room).cells ({ frames := 0, cells := 0, slots := 0, locals := 0 } : Room).slots) := by
  refine MetFree.of_bodySF (plainFor_of_name own_pn0) hisR ?_
  intro p e s m args below meth c s₁ Bd hml0 hP hK
  obtain ⟨rfl, hZ, hh⟩ := hP
  have hx := Bd.exec
  have hby := Bd.bytes
  have hml : c.maxLocals = 2 := hml0
  have hown : s.vm.findClass "java/lang/StringUTF16" = some m.cls := findClass_of_methodNamed Bd.named
  have hnm := (name_of_methodNamed Bd.named Bd.method).1
  have X0 : Stand p l e ({ frames := 0, cells := 0, slots := 0, locals := 0 } : Room) s m #[(.ref a1), (.int (2 : Int32))] below meth c s₁ [] 0 0 := Stand.of_body Bd
  have e0 : s₁.heap = h0 := by rw [← hh, Bd.state]; rfl
  have N0 := Fr.nil n0
  have K0 : Keep h0 h0 [] := Keep.refl h0 _
  have pre0 : ∀ t, Steps p.tables e below (s₁.setTop (mkF m 0 #[.val (.ref a1), .val (.int (2 : Int32))] [])) t → Steps p.tables e below (s₁.setTop (entryFrame m #[(.ref a1), (.int (2 : Int32))] 2)) t := fun t k => castTop (own_ef_rmCo_2 m a1) k
  obtain ⟨cl37, Ar37, q37, S37, M37, H37, G37⟩ := id V_a1
  obtain ⟨fs, hr, hrun, hended, hW, hsame⟩ := X0.leave (v := some (.int (0 : Int32))) (fun h => by rw [Bd.returns] at h; cases h)
  refine ⟨_, _, pre0 _ ?_, hrun, hended, _, _, rfl, ?_, ⟨_, rfl⟩, hW, hsame.mono (by decide) (by decide)⟩
  · show Steps p.tables e below (s₁.setTop (mkF m 0 #[.val (.ref a1), .val (.int (2 : Int32))] [])) _
    refine XS.iloadN X0.here hx rfl (hb hby own_d12_0) rfl ?_
    show Steps p.tables e below (s₁.setTop (mkF m 1 #[.val (.ref a1), .val (.int (2 : Int32))] [(.int (2 : Int32))])) _
    refine XS.aloadN X0.here hx rfl (hb hby own_d12_1) rfl rfl ?_
    show Steps p.tables e below (s₁.setTop (mkF m 2 #[.val (.ref a1), .val (.int (2 : Int32))] [(.ref a1), (.int (2 : Int32))])) _
    refine X0.arraylength hx (by rw [e0]; exact Ar37.1) (State.isArrayOf_alike hZ.alike Ar37.2.1) (g := (mkF m 2 #[.val (.ref a1), .val (.int (2 : Int32))] [(.ref a1), (.int (2 : Int32))])) rfl rfl (hb hby own_d12_2) _ ?_
    rw [len_of S37 M37]
    show Steps p.tables e below (s₁.setTop (mkF m 3 #[.val (.ref a1), .val (.int (2 : Int32))] [(.int (2 : Int32)), (.int (2 : Int32))])) _
    refine XS.isub X0.here hx rfl (hb hby own_d12_3) rfl ?_
    show Steps p.tables e below (s₁.setTop (mkF m 4 #[.val (.ref a1), .val (.int (2 : Int32))] [(.int (0 : Int32))])) _
    refine XS.bipush X0.here hx rfl (hb hby own_d12_4) ?_
    show Steps p.tables e below (s₁.setTop (mkF m 6 #[.val (.ref a1), .val (.int (2 : Int32))] [(.int (31 : Int32)), (.int (0 : Int32))])) _
    refine XS.iushr X0.here hx rfl (hb hby own_d12_6) rfl ?_
    show Steps p.tables e below (s₁.setTop (mkF m 7 #[.val (.ref a1), .val (.int (2 : Int32))] [(.int (0 : Int32))])) _
    refine XS.i2b X0.here hx rfl (hb hby own_d12_7) rfl ?_
    show Steps p.tables e below (s₁.setTop (mkF m 8 #[.val (.ref a1), .val (.int (2 : Int32))] [(.int (0 : Int32))])) _
    exact retN X0 hx (t := .byte) Bd.returns (by simp) (hb hby own_d12_8) hr
  · show QCo_2 Z a1 k1 v0 v1 h0 n0 _ s₁.heap _
    rw [e0]
    exact ⟨rfl, N0, rfl⟩
theorem own_ef_rmI4_2 (m : MethodId) (a1 : Addr) (a2 : Addr) : entryFrame m #[(.ref a1), (.ref a2), (.int (0 : Int32)), (.int (2 : Int32)), .null] 6 = mkF m 0 #[.val (.ref a1), .val (.ref a2), .val (.int (0 : Int32)), .val (.int (2 : Int32)), .val .null, .unset] [] := by first | (simp [entryFrame, mkF, argsToLocals, Value.category]; done) | rfl
def QI4_2 (Z : State) (a1 : Addr) (a2 : Addr) (cw : Int32) (k2 : ClassId) (v0 : Int32) (v1 : Int32) (h0 : Heap) (n0 : Nat) (v : Option Value) (h : Heap) (L : List Loc) : Prop := ∃ b : Addr, ∃ kb : ClassId, v = none ∧ Fr n0 L ∧ Keep h0 h [a1] ∧ h0.size ≤ b ∧ Exa Z h a1 "java/lang/String" ∧ Fld Z h a1 "java/lang/String" "coder" "B" (.int (0 : Int32)) ∧ Fld Z h a1 "java/lang/String" "value" "[B" (.ref b) ∧ Arv Z h b kb .byte (2 : Int32) [(.int (nar .byte (v0.toInt8.toInt32))), (.int (nar .byte (v1.toInt8.toInt32)))] (.int (0 : Int32))
set_option maxRecDepth 65536 in
set_option maxHeartbeats 40000000 in
theorem rmI4_2 (l : Launch) (Z : State) (a0 : Array Value) (hw : ∀ d ∈ tables_1, d.before a0 Z = true) (ws : List Jvm.Cond) (a1 : Addr) (a2 : Addr) (cw : Int32) (k2 : ClassId) (v0 : Int32) (v1 : Int32) (h0 : Heap) (n0 : Nat) (Z0 : n0 ≤ h0.size) (E_a1 : Exa Z h0 a1 "java/lang/String") (F_a1_value : Fld Z h0 a1 "java/lang/String" "value" "[B" .null) (F_a1_coder : Fld Z h0 a1 "java/lang/String" "coder" "B" (.int (0 : Int32))) (gg_a1 : n0 ≤ a1) (S_COMPACT_STRINGS : Sta Z h0 "java/lang/String" "COMPACT_STRINGS" "Z" (.int cw)) (hw0 : ¬ (cw = (0 : Int32))) (V_a2 : Arv Z h0 a2 k2 .char (2 : Int32) [(.int v0), (.int v1)] (.int (0 : Int32))) (hle_v0 : ¬ ((255 : Int32) < v0)) (hle_v1 : ¬ ((255 : Int32) < v1)) :
    MetFree l (⟨"java/lang/String", "<init>", "([CIILjava/lang/Void;)V"⟩ : MethodName) (head1 (Jvm.Cond.code (⟨"java/lang/String", "<init>", "([CIILjava/lang/Void;)V"⟩ : MethodName) jdk_42_method_149_code 6 none :: ws) ({ frames := 2, cells := 1, slots := 2, locals := 35 } : Room)) (fun a U => a = #[(.ref a1), (.ref a2), (.int (0 : Int32)), (.int (2 : Int32)), .null] ∧ Z.Warmed39 U.vm ∧ U.heap = h0) (fun _ _ _ _ _ => True) (fun _ U o U' => ∃ v L, o = .returned v ∧ QI4_2 Z a1 a2 cw k2 v0 v1 h0 n0 v U'.heap L ∧ FrameEnd U o U' L ({ frames := 2, cells := 1, slots := 2, locals := 35 } : Room).cells ({ frames := 2, cells := 1, slots := 2, locals := 35 } : Room).slots) := by
  refine MetFree.of_bodySF (plainFor_of_name own_pn1) hisR ?_
  intro p e s m args below meth c s₁ Bd hml0 hP hK
  obtain ⟨rfl, hZ, hh⟩ := hP
  have hx := Bd.exec
  have hby := Bd.bytes
  have hml : c.maxLocals = 6 := hml0
  have hown : s.vm.findClass "java/lang/String" = some m.cls := findClass_of_methodNamed Bd.named
  have hnm := (name_of_methodNamed Bd.named Bd.method).1
  have X0 : Stand p l e ({ frames := 2, cells := 1, slots := 2, locals := 35 } : Room) s m #[(.ref a1), (.ref a2), (.int (0 : Int32)), (.int (2 : Int32)), .null] below meth c s₁ [] 0 0 := Stand.of_body Bd
  have e0 : s₁.heap = h0 := by rw [← hh, Bd.state]; rfl
  have N0 := Fr.nil n0
  have K0 : Keep h0 h0 [a1] := Keep.refl h0 _
  have pre0 : ∀ t, Steps p.tables e below (s₁.setTop (mkF m 0 #[.val (.ref a1), .val (.ref a2), .val (.int (0 : Int32)), .val (.int (2 : Int32)), .val .null, .unset] [])) t → Steps p.tables e below (s₁.setTop (entryFrame m #[(.ref a1), (.ref a2), (.int (0 : Int32)), (.int (2 : Int32)), .null] 6)) t := fun t k => castTop (own_ef_rmI4_2 m a1 a2) k
  obtain ⟨T38, X38, e38, st38⟩ := initO X0 hx hZ hown (hw _ (List.mem_of_getElem? (i := 18) rfl)) (hw _ (List.mem_of_getElem? (i := 19) rfl)) (hw _ (List.mem_of_getElem? (i := 20) rfl)) e0 (g := (mkF m 1 #[.val (.ref a1), .val (.ref a2), .val (.int (0 : Int32)), .val (.int (2 : Int32)), .val .null, .unset] [(.ref a1)])) rfl (by rw [hml]; rfl) rfl (hb hby own_d3_1) (by decide) (W := 0) (by show 2 * 0 + _ ≤ _; exact Nat.le_of_eq rfl) (by decide)
  obtain ⟨T39, X39, e39, st39⟩ := getS2 X38 hx hZ hown (host := "") (Or.inl (hw _ (List.mem_of_getElem? (i := 53) rfl))) Via.refl e38 S_COMPACT_STRINGS (g := (mkF m 27 #[.val (.ref a1), .val (.ref a2), .val (.int (0 : Int32)), .val (.int (2 : Int32)), .val .null, .unset] [])) rfl (hb hby own_d3_27)
  have hc30_40 : ¬ (cw = (0 : Int32)) := hw0
  obtain ⟨_, _, ⟨T41, L41, k41, n41⟩, -, X41, ⟨Lc41, hQ41, l41, y41, z41⟩, st41⟩ := Jvm.LawKit.callS X39 hx (y := (⟨"java/lang/StringUTF16", "compress", "([CII)[B"⟩ : MethodName)) hown (mvT hZ (hw _ (List.mem_of_getElem? (i := 58) rfl))) (mvT hZ (hw _ (List.mem_of_getElem? (i := 59) rfl))) (mvT hZ (hw _ (List.mem_of_getElem? (i := 60) rfl))) (mvT hZ (hw _ (List.mem_of_getElem? (i := 61) rfl))) (by decide) (backOf (W := 0) (rmC3_2 l Z a0 hw [] a2 k2 v0 v1 h0 n0 (Nat.le_trans Z0 K0.1) V_a2 hle_v0 hle_v1) hZ (hw _ (List.mem_of_getElem? (i := 61) rfl)) (hw _ (List.mem_of_getElem? (i := 60) rfl)) (by decide) (by decide)) (g := (mkF m 36 #[.val (.ref a1), .val (.ref a2), .val (.int (0 : Int32)), .val (.int (2 : Int32)), .val .null, .unset] [(.int (2 : Int32)), (.int (0 : Int32)), (.ref a2)])) rfl (by rw [hml]; rfl) (argsL := [(.ref a2), (.int (0 : Int32)), (.int (2 : Int32))]) (rest := []) (lenOf own_pd1 rfl) rfl (by show 2 * 0 + _ ≤ _; exact Nat.le_of_eq rfl) (hb hby own_d3_36) (fun _ _ => ⟨rfl, e39, (by decide : 0 + 1 ≤ _), (by decide : 0 + 2 ≤ _)⟩)
  dsimp only [Pt.U, Pt.locs, Pt.cells, Pt.slots] at X41 l41 y41 z41 st41 hQ41
  subst l41 y41 z41
  obtain ⟨b_41, kb_41, rfl, N41q, i41_4, i41_5, i41_6⟩ := hQ41
  have N41 := Fr.app N0 N41q
  have ne_a1_b_41 : a1 ≠ b_41 := Nat.ne_of_lt (Nat.lt_of_lt_of_le E_a1.lt i41_5)
  have ne_a2_b_41 : a2 ≠ b_41 := Nat.ne_of_lt (Nat.lt_of_lt_of_le V_a2.lt i41_5)
  have gg_b_41 : n0 ≤ b_41 := Nat.le_trans (Nat.le_trans Z0 K0.1) i41_5
  have sz_b_41 : h0.size ≤ b_41 := Nat.le_trans K0.1 i41_5
  have K41 := K0.trans i41_4 all0
  obtain ⟨_, _, ⟨T42, L42, k42, n42⟩, -, X42, ⟨Lc42, hQ42, l42, y42, z42⟩, st42⟩ := Jvm.LawKit.callS X41 hx (y := (⟨"java/lang/StringUTF16", "coderFromArrayLen", "([BI)B"⟩ : MethodName)) hown (mvT hZ (hw _ (List.mem_of_getElem? (i := 65) rfl))) (mvT hZ (hw _ (List.mem_of_getElem? (i := 66) rfl))) (mvT hZ (hw _ (List.mem_of_getElem? (i := 60) rfl))) (mvT hZ (hw _ (List.mem_of_getElem? (i := 67) rfl))) (by decide) (backOf (W := 1) (rmCo_2 l Z a0 hw [] b_41 kb_41 (nar .byte (v0.toInt8.toInt32)) (nar .byte (v1.toInt8.toInt32)) T41.heap n0 (Nat.le_trans Z0 K41.1) i41_6) hZ (hw _ (List.mem_of_getElem? (i := 67) rfl)) (hw _ (List.mem_of_getElem? (i := 60) rfl)) (by decide) (by decide)) (g := (mkF m 45 #[.val (.ref a1), .val (.ref a2), .val (.int (0 : Int32)), .val (.int (2 : Int32)), .val .null, .val (.ref b_41)] [(.int (2 : Int32)), (.ref b_41), (.ref a1)])) rfl (by rw [hml]; rfl) (argsL := [(.ref b_41), (.int (2 : Int32))]) (rest := [(.ref a1)]) (lenOf own_pd2 rfl) rfl (by show 2 * 0 + _ ≤ _; exact Nat.le_of_eq rfl) (hb hby own_d3_45) (fun _ _ => ⟨rfl, rfl, (by decide : 1 + 0 ≤ _), (by decide : 2 + 0 ≤ _)⟩)
  dsimp only [Pt.U, Pt.locs, Pt.cells, Pt.slots] at X42 l42 y42 z42 st42 hQ42
  subst l42 y42 z42
  obtain ⟨rfl, N42q, e42⟩ := hQ42
  have N42 := Fr.app N41 N42q
  have Q43 := (E_a1.keep i41_4)
  have Q44 := (F_a1_coder.keep i41_4 nin0)
  obtain ⟨T45, h45, X45, e45, W45, st45⟩ := putFN X42 hx hZ hown (hw _ (List.mem_of_getElem? (i := 28) rfl)) Via.refl e42 Q44 Q43 (Or.inr ⟨(hw _ (List.mem_of_getElem? (i := 24) rfl)), rfl, hnm⟩) (hw _ (List.mem_of_getElem? (i := 8) rfl)) (ty := .byte) (v' := (.int (0 : Int32))) (by decide) rfl (by decide) (g := (mkF m 48 #[.val (.ref a1), .val (.ref a2), .val (.int (0 : Int32)), .val (.int (2 : Int32)), .val .null, .val (.ref b_41)] [(.int (0 : Int32)), (.ref a1)])) rfl rfl (hb hby own_d3_48)
  have Fw45 := Q44.same W45
  have K45 := K41.wr W45 (Or.inl (List.mem_of_getElem? (i := 0) rfl))
  have N45 := Fr.snoc X45 N42 gg_a1
  have Q46 := (Q43.wr W45)
  have Q47 := ((F_a1_value.keep i41_4 nin0).other W45 (Or.inr (slot_ne (Or.inr (hw _ (List.mem_of_getElem? (i := 23) rfl))) (Or.inr (hw _ (List.mem_of_getElem? (i := 24) rfl))) (by decide) (t := (.array .byte)) (t' := .byte) (by decide) (by decide))))
  obtain ⟨T48, h48, X48, e48, W48, st48⟩ := putF X45 hx hZ hown (host := "") (Or.inl (hw _ (List.mem_of_getElem? (i := 27) rfl))) Via.refl e45 Q47 Q46 (Or.inr ⟨(hw _ (List.mem_of_getElem? (i := 23) rfl)), rfl, hnm⟩) (hw _ (List.mem_of_getElem? (i := 8) rfl)) (ty := (.array .byte)) (by decide) rfl rfl (g := (mkF m 54 #[.val (.ref a1), .val (.ref a2), .val (.int (0 : Int32)), .val (.int (2 : Int32)), .val .null, .val (.ref b_41)] [(.ref b_41), (.ref a1)])) rfl rfl (hb hby own_d3_54)
  have Fw48 := Q47.same W48
  have K48 := K45.wr W48 (Or.inl (List.mem_of_getElem? (i := 0) rfl))
  have N48 := Fr.snoc X48 N45 gg_a1
  have Q49 := (Q46.wr W48)
  have Q50 := (Fw45.other W48 (Or.inr (slot_ne (Or.inr (hw _ (List.mem_of_getElem? (i := 24) rfl))) (Or.inr (hw _ (List.mem_of_getElem? (i := 23) rfl))) (by decide) (t := .byte) (t' := (.array .byte)) (by decide) (by decide))))
  have Q51 := ((i41_6.other W45 (Ne.symm ne_a1_b_41)).other W48 (Ne.symm ne_a1_b_41))
  obtain ⟨fs, hr, hrun, hended, hW, hsame⟩ := X48.leave (v := none) (fun _ => rfl)
  refine ⟨_, _, pre0 _ ?_, hrun, hended, _, _, rfl, ?_, ⟨_, rfl⟩, hW, hsame.mono (by decide) (by decide)⟩
  · show Steps p.tables e below (s₁.setTop (mkF m 0 #[.val (.ref a1), .val (.ref a2), .val (.int (0 : Int32)), .val (.int (2 : Int32)), .val .null, .unset] [])) _
    refine XS.aloadN X0.here hx rfl (hb hby own_d3_0) rfl rfl ?_
    show Steps p.tables e below (s₁.setTop (mkF m 1 #[.val (.ref a1), .val (.ref a2), .val (.int (0 : Int32)), .val (.int (2 : Int32)), .val .null, .unset] [(.ref a1)])) _
    refine st38 _ ?_
    show Steps p.tables e below (T38.setTop (mkF m 4 #[.val (.ref a1), .val (.ref a2), .val (.int (0 : Int32)), .val (.int (2 : Int32)), .val .null, .unset] [])) _
    refine XS.iloadN X38.here hx rfl (hb hby own_d3_4) rfl ?_
    show Steps p.tables e below (T38.setTop (mkF m 5 #[.val (.ref a1), .val (.ref a2), .val (.int (0 : Int32)), .val (.int (2 : Int32)), .val .null, .unset] [(.int (2 : Int32))])) _
    refine XS.ifYes X38.here hx rfl (pc0 := 5) (pc' := 27) rfl (hb hby own_d3_5) rfl ((if0 _ _).trans (feq (by decide : ¬ ((2 : Int32) = (0 : Int32)))).2) (by decide) (by decide) ?_
    show Steps p.tables e below (T38.setTop (mkF m 27 #[.val (.ref a1), .val (.ref a2), .val (.int (0 : Int32)), .val (.int (2 : Int32)), .val .null, .unset] [])) _
    refine st39 _ ?_
    show Steps p.tables e below (T39.setTop (mkF m 30 #[.val (.ref a1), .val (.ref a2), .val (.int (0 : Int32)), .val (.int (2 : Int32)), .val .null, .unset] [(.int cw)])) _
    refine XS.ifNo X39.here hx rfl (hb hby own_d3_30) rfl ((if0 _ _).trans (feq hc30_40).1) ?_
    show Steps p.tables e below (T39.setTop (mkF m 33 #[.val (.ref a1), .val (.ref a2), .val (.int (0 : Int32)), .val (.int (2 : Int32)), .val .null, .unset] [])) _
    refine XS.aloadN X39.here hx rfl (hb hby own_d3_33) rfl rfl ?_
    show Steps p.tables e below (T39.setTop (mkF m 34 #[.val (.ref a1), .val (.ref a2), .val (.int (0 : Int32)), .val (.int (2 : Int32)), .val .null, .unset] [(.ref a2)])) _
    refine XS.iloadN X39.here hx rfl (hb hby own_d3_34) rfl ?_
    show Steps p.tables e below (T39.setTop (mkF m 35 #[.val (.ref a1), .val (.ref a2), .val (.int (0 : Int32)), .val (.int (2 : Int32)), .val .null, .unset] [(.int (0 : Int32)), (.ref a2)])) _
    refine XS.iloadN X39.here hx rfl (hb hby own_d3_35) rfl ?_
    show Steps p.tables e below (T39.setTop (mkF m 36 #[.val (.ref a1), .val (.ref a2), .val (.int (0 : Int32)), .val (.int (2 : Int32)), .val .null, .unset] [(.int (2 : Int32)), (.int (0 : Int32)), (.ref a2)])) _
    refine st41 _ ?_
    show Steps p.tables e below (T41.setTop (mkF m 39 #[.val (.ref a1), .val (.ref a2), .val (.int (0 : Int32)), .val (.int (2 : Int32)), .val .null, .unset] [(.ref b_41)])) _
    refine XS.astore X41.here hx rfl (hb hby own_d3_39) rfl rfl (l' := #[.val (.ref a1), .val (.ref a2), .val (.int (0 : Int32)), .val (.int (2 : Int32)), .val .null, .val (.ref b_41)]) rfl ?_
    show Steps p.tables e below (T41.setTop (mkF m 41 #[.val (.ref a1), .val (.ref a2), .val (.int (0 : Int32)), .val (.int (2 : Int32)), .val .null, .val (.ref b_41)] [])) _
    refine XS.aloadN X41.here hx rfl (hb hby own_d3_41) rfl rfl ?_
    show Steps p.tables e below (T41.setTop (mkF m 42 #[.val (.ref a1), .val (.ref a2), .val (.int (0 : Int32)), .val (.int (2 : Int32)), .val .null, .val (.ref b_41)] [(.ref a1)])) _
    refine XS.aload X41.here hx rfl (hb hby own_d3_42) rfl rfl ?_
    show Steps p.tables e below (T41.setTop (mkF m 44 #[.val (.ref a1), .val (.ref a2), .val (.int (0 : Int32)), .val (.int (2 : Int32)), .val .null, .val (.ref b_41)] [(.ref b_41), (.ref a1)])) _
    refine XS.iloadN X41.here hx rfl (hb hby own_d3_44) rfl ?_
    show Steps p.tables e below (T41.setTop (mkF m 45 #[.val (.ref a1), .val (.ref a2), .val (.int (0 : Int32)), .val (.int (2 : Int32)), .val .null, .val (.ref b_41)] [(.int (2 : Int32)), (.ref b_41), (.ref a1)])) _
    refine st42 _ ?_
    show Steps p.tables e below (T42.setTop (mkF m 48 #[.val (.ref a1), .val (.ref a2), .val (.int (0 : Int32)), .val (.int (2 : Int32)), .val .null, .val (.ref b_41)] [(.int (0 : Int32)), (.ref a1)])) _
    refine st45 _ ?_
    show Steps p.tables e below (T45.setTop (mkF m 51 #[.val (.ref a1), .val (.ref a2), .val (.int (0 : Int32)), .val (.int (2 : Int32)), .val .null, .val (.ref b_41)] [])) _
    refine XS.aloadN X45.here hx rfl (hb hby own_d3_51) rfl rfl ?_
    show Steps p.tables e below (T45.setTop (mkF m 52 #[.val (.ref a1), .val (.ref a2), .val (.int (0 : Int32)), .val (.int (2 : Int32)), .val .null, .val (.ref b_41)] [(.ref a1)])) _
    refine XS.aload X45.here hx rfl (hb hby own_d3_52) rfl rfl ?_
    show Steps p.tables e below (T45.setTop (mkF m 54 #[.val (.ref a1), .val (.ref a2), .val (.int (0 : Int32)), .val (.int (2 : Int32)), .val .null, .val (.ref b_41)] [(.ref b_41), (.ref a1)])) _
    refine st48 _ ?_
    show Steps p.tables e below (T48.setTop (mkF m 57 #[.val (.ref a1), .val (.ref a2), .val (.int (0 : Int32)), .val (.int (2 : Int32)), .val .null, .val (.ref b_41)] [])) _
    exact X48.returnOut hx Bd.returns (hb hby own_d3_57) hr
  · show QI4_2 Z a1 a2 cw k2 v0 v1 h0 n0 _ T48.heap _
    rw [e48]
    exact ⟨b_41, kb_41, rfl, N48, K48, sz_b_41, Q49, Q50, Fw48, Q51⟩
theorem own_ef_rmI1_2 (m : MethodId) (a1 : Addr) (a2 : Addr) : entryFrame m #[(.ref a1), (.ref a2)] 2 = mkF m 0 #[.val (.ref a1), .val (.ref a2)] [] := by first | (simp [entryFrame, mkF, argsToLocals, Value.category]; done) | rfl
def QI1_2 (Z : State) (a1 : Addr) (a2 : Addr) (cw : Int32) (k2 : ClassId) (v0 : Int32) (v1 : Int32) (h0 : Heap) (n0 : Nat) (v : Option Value) (h : Heap) (L : List Loc) : Prop := ∃ b : Addr, ∃ kb : ClassId, v = none ∧ Fr n0 L ∧ Keep h0 h [a1] ∧ h0.size ≤ b ∧ Exa Z h a1 "java/lang/String" ∧ Fld Z h a1 "java/lang/String" "coder" "B" (.int (0 : Int32)) ∧ Fld Z h a1 "java/lang/String" "value" "[B" (.ref b) ∧ Arv Z h b kb .byte (2 : Int32) [(.int (nar .byte (v0.toInt8.toInt32))), (.int (nar .byte (v1.toInt8.toInt32)))] (.int (0 : Int32))
set_option maxRecDepth 65536 in
set_option maxHeartbeats 40000000 in
theorem rmI1_2 (l : Launch) (Z : State) (a0 : Array Value) (hw : ∀ d ∈ tables_1, d.before a0 Z = true) (ws : List Jvm.Cond) (a1 : Addr) (a2 : Addr) (cw : Int32) (k2 : ClassId) (v0 : Int32) (v1 : Int32) (h0 : Heap) (n0 : Nat) (Z0 : n0 ≤ h0.size) (E_a1 : Exa Z h0 a1 "java/lang/String") (F_a1_value : Fld Z h0 a1 "java/lang/String" "value" "[B" .null) (F_a1_coder : Fld Z h0 a1 "java/lang/String" "coder" "B" (.int (0 : Int32))) (gg_a1 : n0 ≤ a1) (S_COMPACT_STRINGS : Sta Z h0 "java/lang/String" "COMPACT_STRINGS" "Z" (.int cw)) (hw0 : ¬ (cw = (0 : Int32))) (V_a2 : Arv Z h0 a2 k2 .char (2 : Int32) [(.int v0), (.int v1)] (.int (0 : Int32))) (hle_v0 : ¬ ((255 : Int32) < v0)) (hle_v1 : ¬ ((255 : Int32) < v1)) :
    MetFree l (⟨"java/lang/String", "<init>", "([C)V"⟩ : MethodName) (head1 (Jvm.Cond.code (⟨"java/lang/String", "<init>", "([C)V"⟩ : MethodName) jdk_42_method_3_code 2 none :: ws) ({ frames := 3, cells := 1, slots := 2, locals := 52 } : Room)) (fun a U => a = #[(.ref a1), (.ref a2)] ∧ Z.Warmed39 U.vm ∧ U.heap = h0) (fun _ _ _ _ _ => True) (fun _ U o U' => ∃ v L, o = .returned v ∧ QI1_2 Z a1 a2 cw k2 v0 v1 h0 n0 v U'.heap L ∧ FrameEnd U o U' L ({ frames := 3, cells := 1, slots := 2, locals := 52 } : Room).cells ({ frames := 3, cells := 1, slots := 2, locals := 52 } : Room).slots) := by
  refine MetFree.of_bodySF (plainFor_of_name own_pn1) hisR ?_
  intro p e s m args below meth c s₁ Bd hml0 hP hK
  obtain ⟨rfl, hZ, hh⟩ := hP
  have hx := Bd.exec
  have hby := Bd.bytes
  have hml : c.maxLocals = 2 := hml0
  have hown : s.vm.findClass "java/lang/String" = some m.cls := findClass_of_methodNamed Bd.named
  have hnm := (name_of_methodNamed Bd.named Bd.method).1
  have X0 : Stand p l e ({ frames := 3, cells := 1, slots := 2, locals := 52 } : Room) s m #[(.ref a1), (.ref a2)] below meth c s₁ [] 0 0 := Stand.of_body Bd
  have e0 : s₁.heap = h0 := by rw [← hh, Bd.state]; rfl
  have N0 := Fr.nil n0
  have K0 : Keep h0 h0 [a1] := Keep.refl h0 _
  have pre0 : ∀ t, Steps p.tables e below (s₁.setTop (mkF m 0 #[.val (.ref a1), .val (.ref a2)] [])) t → Steps p.tables e below (s₁.setTop (entryFrame m #[(.ref a1), (.ref a2)] 2)) t := fun t k => castTop (own_ef_rmI1_2 m a1 a2) k
  obtain ⟨cl52, Ar52, q52, S52, M52, H52, G52⟩ := id V_a2
  obtain ⟨_, _, ⟨T53, L53, k53, n53⟩, -, X53, ⟨Lc53, hQ53, l53, y53, z53⟩, st53⟩ := X0.specialBack hx (y := (⟨"java/lang/String", "<init>", "([CIILjava/lang/Void;)V"⟩ : MethodName)) rfl hown (mvT hZ (hw _ (List.mem_of_getElem? (i := 14) rfl))) (mvT hZ (hw _ (List.mem_of_getElem? (i := 15) rfl))) (mvT hZ (hw _ (List.mem_of_getElem? (i := 17) rfl))) (by decide) (backOf (W := 0) (rmI4_2 l Z a0 hw [] a1 a2 cw k2 v0 v1 h0 n0 (Nat.le_trans Z0 K0.1) E_a1 F_a1_value F_a1_coder gg_a1 S_COMPACT_STRINGS hw0 V_a2 hle_v0 hle_v1) hZ (hw _ (List.mem_of_getElem? (i := 17) rfl)) (hw _ (List.mem_of_getElem? (i := 9) rfl)) (by decide) (by decide)) (g := (mkF m 6 #[.val (.ref a1), .val (.ref a2)] [.null, (.int (2 : Int32)), (.int (0 : Int32)), (.ref a2), (.ref a1)])) rfl (by rw [hml]; rfl) (Steps.refl _) (a := a1) (argsL := [(.ref a2), (.int (0 : Int32)), (.int (2 : Int32)), .null]) (rest := []) (lenOf own_pd3 rfl) rfl (by show 2 * 0 + _ ≤ _; exact Nat.le_of_eq rfl) (hb hby own_d2_6) (fun _ _ => ⟨rfl, e0, (by decide : 0 + 1 ≤ _), (by decide : 0 + 2 ≤ _)⟩)
  dsimp only [Pt.U, Pt.locs, Pt.cells, Pt.slots] at X53 l53 y53 z53 st53 hQ53
  subst l53 y53 z53
  obtain ⟨b_53, kb_53, rfl, N53q, i53_4, i53_5, i53_6, i53_7, i53_8, i53_9⟩ := hQ53
  have N53 := Fr.app N0 N53q
  have ne_a1_b_53 : a1 ≠ b_53 := Nat.ne_of_lt (Nat.lt_of_lt_of_le E_a1.lt i53_5)
  have ne_a2_b_53 : a2 ≠ b_53 := Nat.ne_of_lt (Nat.lt_of_lt_of_le V_a2.lt i53_5)
  have gg_b_53 : n0 ≤ b_53 := Nat.le_trans (Nat.le_trans Z0 K0.1) i53_5
  have sz_b_53 : h0.size ≤ b_53 := Nat.le_trans K0.1 i53_5
  have K53 := K0.trans i53_4 (allS (Or.inl (List.mem_of_getElem? (i := 0) rfl)) all0)
  obtain ⟨fs, hr, hrun, hended, hW, hsame⟩ := X53.leave (v := none) (fun _ => rfl)
  refine ⟨_, _, pre0 _ ?_, hrun, hended, _, _, rfl, ?_, ⟨_, rfl⟩, hW, hsame.mono (by decide) (by decide)⟩
  · show Steps p.tables e below (s₁.setTop (mkF m 0 #[.val (.ref a1), .val (.ref a2)] [])) _
    refine XS.aloadN X0.here hx rfl (hb hby own_d2_0) rfl rfl ?_
    show Steps p.tables e below (s₁.setTop (mkF m 1 #[.val (.ref a1), .val (.ref a2)] [(.ref a1)])) _
    refine XS.aloadN X0.here hx rfl (hb hby own_d2_1) rfl rfl ?_
    show Steps p.tables e below (s₁.setTop (mkF m 2 #[.val (.ref a1), .val (.ref a2)] [(.ref a2), (.ref a1)])) _
    refine XS.iconst X0.here hx rfl (hb hby own_d2_2) ?_
    show Steps p.tables e below (s₁.setTop (mkF m 3 #[.val (.ref a1), .val (.ref a2)] [(.int (0 : Int32)), (.ref a2), (.ref a1)])) _
    refine XS.aloadN X0.here hx rfl (hb hby own_d2_3) rfl rfl ?_
    show Steps p.tables e below (s₁.setTop (mkF m 4 #[.val (.ref a1), .val (.ref a2)] [(.ref a2), (.int (0 : Int32)), (.ref a2), (.ref a1)])) _
    refine X0.arraylength hx (by rw [e0]; exact Ar52.1) (State.isArrayOf_alike hZ.alike Ar52.2.1) (g := (mkF m 4 #[.val (.ref a1), .val (.ref a2)] [(.ref a2), (.int (0 : Int32)), (.ref a2), (.ref a1)])) rfl rfl (hb hby own_d2_4) _ ?_
    rw [len_of S52 M52]
    show Steps p.tables e below (s₁.setTop (mkF m 5 #[.val (.ref a1), .val (.ref a2)] [(.int (2 : Int32)), (.int (0 : Int32)), (.ref a2), (.ref a1)])) _
    refine XS.aconstNull X0.here hx rfl (hb hby own_d2_5) ?_
    show Steps p.tables e below (s₁.setTop (mkF m 6 #[.val (.ref a1), .val (.ref a2)] [.null, (.int (2 : Int32)), (.int (0 : Int32)), (.ref a2), (.ref a1)])) _
    refine st53.trans ?_
    show Steps p.tables e below (T53.setTop (mkF m 9 #[.val (.ref a1), .val (.ref a2)] [])) _
    exact X53.returnOut hx Bd.returns (hb hby own_d2_9) hr
  · show QI1_2 Z a1 a2 cw k2 v0 v1 h0 n0 _ T53.heap _
    exact ⟨b_53, kb_53, rfl, N53, K53, sz_b_53, i53_6, i53_7, i53_8, i53_9⟩
theorem own_d3_8 : decode jdk_42_method_149_code 8 = .ok (.aload_n 0, 1) := by decide +kernel
theorem own_d3_9 : decode jdk_42_method_149_code 9 = .ok (.ldc 7, 2) := by decide +kernel
theorem own_d3_11 : decode jdk_42_method_149_code 11 = .ok (.getfield 9, 3) := by decide +kernel
theorem own_d3_14 : decode jdk_42_method_149_code 14 = .ok (.putfield 9, 3) := by decide +kernel
theorem own_d3_17 : decode jdk_42_method_149_code 17 = .ok (.aload_n 0, 1) := by decide +kernel
theorem own_d3_18 : decode jdk_42_method_149_code 18 = .ok (.ldc 7, 2) := by decide +kernel
theorem own_d3_20 : decode jdk_42_method_149_code 20 = .ok (.getfield 15, 3) := by decide +kernel
theorem own_d3_23 : decode jdk_42_method_149_code 23 = .ok (.putfield 15, 3) := by decide +kernel
theorem own_d3_26 : decode jdk_42_method_149_code 26 = .ok (.return_, 1) := by decide +kernel
theorem own_ef_rmI4_0 (m : MethodId) (a1 : Addr) (a2 : Addr) : entryFrame m #[(.ref a1), (.ref a2), (.int (0 : Int32)), (.int (0 : Int32)), .null] 6 = mkF m 0 #[.val (.ref a1), .val (.ref a2), .val (.int (0 : Int32)), .val (.int (0 : Int32)), .val .null, .unset] [] := by first | (simp [entryFrame, mkF, argsToLocals, Value.category]; done) | rfl
def QI4_0 (Z : State) (a1 : Addr) (a2 : Addr) (h0 : Heap) (n0 : Nat) (v : Option Value) (h : Heap) (L : List Loc) : Prop := ∃ b : Addr, ∃ kb : ClassId, v = none ∧ Fr n0 L ∧ Keep h0 h [a1] ∧ Exa Z h a1 "java/lang/String" ∧ Fld Z h a1 "java/lang/String" "coder" "B" (.int (0 : Int32)) ∧ Fld Z h a1 "java/lang/String" "value" "[B" (.ref b) ∧ Arv Z h b kb .byte (0 : Int32) [] (.int (0 : Int32))
set_option maxRecDepth 65536 in
set_option maxHeartbeats 40000000 in
theorem rmI4_0 (l : Launch) (Z : State) (a0 : Array Value) (hw : ∀ d ∈ tables_1, d.before a0 Z = true) (ws : List Jvm.Cond) (a1 : Addr) (a2 : Addr) (h0 : Heap) (n0 : Nat) (Z0 : n0 ≤ h0.size) (E_a1 : Exa Z h0 a1 "java/lang/String") (F_a1_value : Fld Z h0 a1 "java/lang/String" "value" "[B" .null) (F_a1_coder : Fld Z h0 a1 "java/lang/String" "coder" "B" (.int (0 : Int32))) (gg_a1 : n0 ≤ a1) :
    MetFree l (⟨"java/lang/String", "<init>", "([CIILjava/lang/Void;)V"⟩ : MethodName) (head1 (Jvm.Cond.code (⟨"java/lang/String", "<init>", "([CIILjava/lang/Void;)V"⟩ : MethodName) jdk_42_method_149_code 6 none :: ws) ({ frames := 1, cells := 4, slots := 8, locals := 12 } : Room)) (fun a U => a = #[(.ref a1), (.ref a2), (.int (0 : Int32)), (.int (0 : Int32)), .null] ∧ Z.Warmed39 U.vm ∧ U.heap = h0 ∧ CHv Z own_EL U.vm h0) (fun _ _ _ _ _ => True) (fun _ U o U' => ∃ v L, o = .returned v ∧ QI4_0 Z a1 a2 h0 n0 v U'.heap L ∧ CHr Z own_EL U.vm U.heap U'.vm U'.heap ∧ ReturnedEndW U o U' L ({ frames := 1, cells := 4, slots := 8, locals := 12 } : Room).cells ({ frames := 1, cells := 4, slots := 8, locals := 12 } : Room).slots) := by
  refine MetFree.of_bodySF (plainFor_of_name own_pn1) hisR ?_
  intro p e s m args below meth c s₁ Bd hml0 hP hK
  obtain ⟨rfl, hZ, hh, hCH⟩ := hP
  have hx := Bd.exec
  have hby := Bd.bytes
  have hml : c.maxLocals = 6 := hml0
  have hown : s.vm.findClass "java/lang/String" = some m.cls := findClass_of_methodNamed Bd.named
  have hnm := (name_of_methodNamed Bd.named Bd.method).1
  have X0 : Stand p l e ({ frames := 1, cells := 4, slots := 8, locals := 12 } : Room) (s.setVm s.vm) m #[(.ref a1), (.ref a2), (.int (0 : Int32)), (.int (0 : Int32)), .null] below meth c s₁ [] 0 0 := Stand.of_body Bd
  have e0 : s₁.heap = h0 := by rw [← hh, Bd.state]; rfl
  have N0 := Fr.nil n0
  have K0 : Keep h0 h0 [a1] := Keep.refl h0 _
  have pre0 : ∀ t, Steps p.tables e below (s₁.setTop (mkF m 0 #[.val (.ref a1), .val (.ref a2), .val (.int (0 : Int32)), .val (.int (0 : Int32)), .val .null, .unset] [])) t → Steps p.tables e below (s₁.setTop (entryFrame m #[(.ref a1), (.ref a2), (.int (0 : Int32)), (.int (0 : Int32)), .null] 6)) t := fun t k => castTop (own_ef_rmI4_0 m a1 a2) k
  have hS : s.Since s.vm 0 := (State.WarmedH.refl s).since 0
  have hk : 0 ≤ h0.size := Nat.zero_le _
  have CH0 := CHr.refl hCH
  have hEL := own_hEL hw
  have wS := own_wS hw
  have sf_a1 : Safe Z own_EL s.vm h0 a1 := own_safeNull hZ (hw _ (List.mem_of_getElem? (i := 8) rfl)) E_a1 F_a1_value
  obtain ⟨T54, X54, e54, st54⟩ := initO X0 hx hZ hown (hw _ (List.mem_of_getElem? (i := 18) rfl)) (hw _ (List.mem_of_getElem? (i := 19) rfl)) (hw _ (List.mem_of_getElem? (i := 20) rfl)) e0 (g := (mkF m 1 #[.val (.ref a1), .val (.ref a2), .val (.int (0 : Int32)), .val (.int (0 : Int32)), .val .null, .unset] [(.ref a1)])) rfl (by rw [hml]; rfl) rfl (hb hby own_d3_1) (by decide) (W := 0) (by show 2 * 0 + _ ≤ _; exact Nat.le_of_eq rfl) (by decide)
  have pre55 : ∀ t, Steps p.tables e below (T54.setTop (mkF m 9 #[.val (.ref a1), .val (.ref a2), .val (.int (0 : Int32)), .val (.int (0 : Int32)), .val .null, .unset] [(.ref a1)])) t → Steps p.tables e below (s₁.setTop (entryFrame m #[(.ref a1), (.ref a2), (.int (0 : Int32)), (.int (0 : Int32)), .null] 6)) t := fun t k => by
    refine pre0 _ ?_
    show Steps p.tables e below (s₁.setTop (mkF m 0 #[.val (.ref a1), .val (.ref a2), .val (.int (0 : Int32)), .val (.int (0 : Int32)), .val .null, .unset] [])) _
    refine XS.aloadN X0.here hx rfl (hb hby own_d3_0) rfl rfl ?_
    show Steps p.tables e below (s₁.setTop (mkF m 1 #[.val (.ref a1), .val (.ref a2), .val (.int (0 : Int32)), .val (.int (0 : Int32)), .val .null, .unset] [(.ref a1)])) _
    refine st54 _ ?_
    show Steps p.tables e below (T54.setTop (mkF m 4 #[.val (.ref a1), .val (.ref a2), .val (.int (0 : Int32)), .val (.int (0 : Int32)), .val .null, .unset] [])) _
    refine XS.iloadN X54.here hx rfl (hb hby own_d3_4) rfl ?_
    show Steps p.tables e below (T54.setTop (mkF m 5 #[.val (.ref a1), .val (.ref a2), .val (.int (0 : Int32)), .val (.int (0 : Int32)), .val .null, .unset] [(.int (0 : Int32))])) _
    refine XS.ifNo X54.here hx rfl (hb hby own_d3_5) rfl ((if0 _ _).trans (teq (by decide : ((0 : Int32) = (0 : Int32)))).2) ?_
    show Steps p.tables e below (T54.setTop (mkF m 8 #[.val (.ref a1), .val (.ref a2), .val (.int (0 : Int32)), .val (.int (0 : Int32)), .val .null, .unset] [])) _
    refine XS.aloadN X54.here hx rfl (hb hby own_d3_8) rfl rfl ?_
    exact k
  obtain ⟨la56, T56, h56, kk56, lb56, lk56, X56, e56, E56, hS, hk, hZ, hown, LE56, LC56, LV56, LA56, -, -, CR56, -, LS56, st56⟩ := ldcCH X54 hx hZ hown (hw _ (List.mem_of_getElem? (i := 21) rfl)) wS e54 hS hk hEL own_mem CH0.1 (vs := []) (z := (0 : Int32)) ⟨by simp, rfl⟩ (by decide) rfl (g := (mkF m 9 #[.val (.ref a1), .val (.ref a2), .val (.int (0 : Int32)), .val (.int (0 : Int32)), .val .null, .unset] [(.ref a1)])) rfl (hb hby own_d3_9) (n := 0) (by decide) (by decide) (by decide) (by decide)
  have sf56_a1 := CHr.safe CR56 E_a1.lt sf_a1
  have nn56_a1 := LS56 _ sf56_a1
  have CH56 := CH0.trans CR56
  have K56 := K0.ext E56
  obtain ⟨T57, X57, e57, st57⟩ := getF X56 hx hZ hown (host := "") (Or.inl (hw _ (List.mem_of_getElem? (i := 27) rfl))) Via.refl e56 LV56 (g := (mkF m 11 #[.val (.ref a1), .val (.ref a2), .val (.int (0 : Int32)), .val (.int (0 : Int32)), .val .null, .unset] [(.ref la56), (.ref a1)])) rfl rfl (hb hby own_d3_11)
  have Q58 := (E_a1.ext E56)
  have Q59 := (F_a1_value.ext E56)
  obtain ⟨T60, h60, X60, e60, W60, st60⟩ := putF X57 hx hZ hown (host := "") (Or.inl (hw _ (List.mem_of_getElem? (i := 27) rfl))) Via.refl e57 Q59 Q58 (Or.inr ⟨(hw _ (List.mem_of_getElem? (i := 23) rfl)), rfl, hnm⟩) (hw _ (List.mem_of_getElem? (i := 8) rfl)) (ty := (.array .byte)) (by decide) rfl rfl (g := (mkF m 14 #[.val (.ref a1), .val (.ref a2), .val (.int (0 : Int32)), .val (.int (0 : Int32)), .val .null, .unset] [(.ref lb56), (.ref a1)])) rfl rfl (hb hby own_d3_14)
  have Fw60 := Q59.same W60
  have K60 := K56.wr W60 (Or.inl (List.mem_of_getElem? (i := 0) rfl))
  have N60 := Fr.snoc X60 N0 gg_a1
  have sf60_a1 := Safe.wr W60 sf56_a1 CH56.1 sf56_a1
  have CH60 := CH56.trans (CHr.wr W60 sf56_a1 CH56.1)
  have hk := Nat.le_trans hk (Keep.of_wr W60).1
  have pre61 : ∀ t, Steps p.tables e below (T60.setTop (mkF m 18 #[.val (.ref a1), .val (.ref a2), .val (.int (0 : Int32)), .val (.int (0 : Int32)), .val .null, .unset] [(.ref a1)])) t → Steps p.tables e below (s₁.setTop (entryFrame m #[(.ref a1), (.ref a2), (.int (0 : Int32)), (.int (0 : Int32)), .null] 6)) t := fun t k => by
    refine pre55 _ ?_
    show Steps p.tables e below (T54.setTop (mkF m 9 #[.val (.ref a1), .val (.ref a2), .val (.int (0 : Int32)), .val (.int (0 : Int32)), .val .null, .unset] [(.ref a1)])) _
    refine st56 _ ?_
    show Steps p.tables e below (T56.setTop (mkF m 11 #[.val (.ref a1), .val (.ref a2), .val (.int (0 : Int32)), .val (.int (0 : Int32)), .val .null, .unset] [(.ref la56), (.ref a1)])) _
    refine st57 _ ?_
    show Steps p.tables e below (T57.setTop (mkF m 14 #[.val (.ref a1), .val (.ref a2), .val (.int (0 : Int32)), .val (.int (0 : Int32)), .val .null, .unset] [(.ref lb56), (.ref a1)])) _
    refine st60 _ ?_
    show Steps p.tables e below (T60.setTop (mkF m 17 #[.val (.ref a1), .val (.ref a2), .val (.int (0 : Int32)), .val (.int (0 : Int32)), .val .null, .unset] [])) _
    refine XS.aloadN X60.here hx rfl (hb hby own_d3_17) rfl rfl ?_
    exact k
  obtain ⟨la62, T62, h62, kk62, lb62, lk62, X62, e62, E62, hS, hk, hZ, hown, LE62, LC62, LV62, LA62, -, -, CR62, -, LS62, st62⟩ := ldcCH X60 hx hZ hown (hw _ (List.mem_of_getElem? (i := 21) rfl)) wS e60 hS hk hEL own_mem CH60.1 (vs := []) (z := (0 : Int32)) ⟨by simp, rfl⟩ (by decide) rfl (g := (mkF m 18 #[.val (.ref a1), .val (.ref a2), .val (.int (0 : Int32)), .val (.int (0 : Int32)), .val .null, .unset] [(.ref a1)])) rfl (hb hby own_d3_18) (n := 0) (by decide) (by decide) (by decide) (by decide)
  have Q63 := (Q58.wr W60)
  have sf62_a1 := CHr.safe CR62 Q63.lt sf60_a1
  have nn62_a1 := LS62 _ sf62_a1
  have CH62 := CH60.trans CR62
  have K62 := K60.ext E62
  obtain ⟨T64, X64, e64, st64⟩ := getF X62 hx hZ hown (host := "") (Or.inl (hw _ (List.mem_of_getElem? (i := 28) rfl))) Via.refl e62 LC62 (g := (mkF m 20 #[.val (.ref a1), .val (.ref a2), .val (.int (0 : Int32)), .val (.int (0 : Int32)), .val .null, .unset] [(.ref la62), (.ref a1)])) rfl rfl (hb hby own_d3_20)
  have Q65 := (Q63.ext E62)
  have Q66 := (((F_a1_coder.ext E56).other W60 (Or.inr (slot_ne (Or.inr (hw _ (List.mem_of_getElem? (i := 24) rfl))) (Or.inr (hw _ (List.mem_of_getElem? (i := 23) rfl))) (by decide) (t := .byte) (t' := (.array .byte)) (by decide) (by decide)))).ext E62)
  obtain ⟨T67, h67, X67, e67, W67, st67⟩ := putFN X64 hx hZ hown (hw _ (List.mem_of_getElem? (i := 28) rfl)) Via.refl e64 Q66 Q65 (Or.inr ⟨(hw _ (List.mem_of_getElem? (i := 24) rfl)), rfl, hnm⟩) (hw _ (List.mem_of_getElem? (i := 8) rfl)) (ty := .byte) (v' := (.int (0 : Int32))) (by decide) rfl (by decide) (g := (mkF m 23 #[.val (.ref a1), .val (.ref a2), .val (.int (0 : Int32)), .val (.int (0 : Int32)), .val .null, .unset] [(.int (0 : Int32)), (.ref a1)])) rfl rfl (hb hby own_d3_23)
  have Fw67 := Q66.same W67
  have K67 := K62.wr W67 (Or.inl (List.mem_of_getElem? (i := 0) rfl))
  have N67 := Fr.snoc X67 N60 gg_a1
  have sf67_a1 := Safe.wr W67 sf62_a1 CH62.1 sf62_a1
  have CH67 := CH62.trans (CHr.wr W67 sf62_a1 CH62.1)
  have hk := Nat.le_trans hk (Keep.of_wr W67).1
  have Q68 := (Q65.wr W67)
  have Q69 := ((Fw60.ext E62).other W67 (Or.inr (slot_ne (Or.inr (hw _ (List.mem_of_getElem? (i := 23) rfl))) (Or.inr (hw _ (List.mem_of_getElem? (i := 24) rfl))) (by decide) (t := (.array .byte)) (t' := .byte) (by decide) (by decide))))
  have Q70 := (((LA56.other W60 (Ne.symm nn56_a1.2)).ext E62).other W67 (Ne.symm nn56_a1.2))
  obtain ⟨fs, hr, hrun, hended, hW, hsame⟩ := X67.leave (v := none) (fun _ => rfl)
  refine ⟨_, _, pre61 _ ?_, hrun, hended, _, _, rfl, ?_, (by show CHr Z own_EL s.vm s.heap T67.vm T67.heap; rw [hh, e67]; exact CH67.trans (CHv.at X67 hZ hEL CH67.1)), own_endW hS (by show _ ≤ T67.heap.size; rw [e67]; exact hk) hW (hsame.mono (by decide) (by decide))⟩
  · show Steps p.tables e below (T60.setTop (mkF m 18 #[.val (.ref a1), .val (.ref a2), .val (.int (0 : Int32)), .val (.int (0 : Int32)), .val .null, .unset] [(.ref a1)])) _
    refine st62 _ ?_
    show Steps p.tables e below (T62.setTop (mkF m 20 #[.val (.ref a1), .val (.ref a2), .val (.int (0 : Int32)), .val (.int (0 : Int32)), .val .null, .unset] [(.ref la62), (.ref a1)])) _
    refine st64 _ ?_
    show Steps p.tables e below (T64.setTop (mkF m 23 #[.val (.ref a1), .val (.ref a2), .val (.int (0 : Int32)), .val (.int (0 : Int32)), .val .null, .unset] [(.int (0 : Int32)), (.ref a1)])) _
    refine st67 _ ?_
    show Steps p.tables e below (T67.setTop (mkF m 26 #[.val (.ref a1), .val (.ref a2), .val (.int (0 : Int32)), .val (.int (0 : Int32)), .val .null, .unset] [])) _
    exact X67.returnOut hx Bd.returns (hb hby own_d3_26) hr
  · show QI4_0 Z a1 a2 h0 n0 _ T67.heap _
    rw [e67]
    exact ⟨lb56, lk56, rfl, N67, K67, Q68, Fw67, Q69, Q70⟩
theorem own_ef_rmI1_0 (m : MethodId) (a1 : Addr) (a2 : Addr) : entryFrame m #[(.ref a1), (.ref a2)] 2 = mkF m 0 #[.val (.ref a1), .val (.ref a2)] [] := by first | (simp [entryFrame, mkF, argsToLocals, Value.category]; done) | rfl
def QI1_0 (Z : State) (a1 : Addr) (a2 : Addr) (k2 : ClassId) (h0 : Heap) (n0 : Nat) (v : Option Value) (h : Heap) (L : List Loc) : Prop := ∃ b : Addr, ∃ kb : ClassId, v = none ∧ Fr n0 L ∧ Keep h0 h [a1] ∧ Exa Z h a1 "java/lang/String" ∧ Fld Z h a1 "java/lang/String" "coder" "B" (.int (0 : Int32)) ∧ Fld Z h a1 "java/lang/String" "value" "[B" (.ref b) ∧ Arv Z h b kb .byte (0 : Int32) [] (.int (0 : Int32))
set_option maxRecDepth 65536 in
set_option maxHeartbeats 40000000 in
theorem rmI1_0 (l : Launch) (Z : State) (a0 : Array Value) (hw : ∀ d ∈ tables_1, d.before a0 Z = true) (ws : List Jvm.Cond) (a1 : Addr) (a2 : Addr) (k2 : ClassId) (h0 : Heap) (n0 : Nat) (Z0 : n0 ≤ h0.size) (E_a1 : Exa Z h0 a1 "java/lang/String") (F_a1_value : Fld Z h0 a1 "java/lang/String" "value" "[B" .null) (F_a1_coder : Fld Z h0 a1 "java/lang/String" "coder" "B" (.int (0 : Int32))) (gg_a1 : n0 ≤ a1) (V_a2 : Arv Z h0 a2 k2 .char (0 : Int32) [] (.int (0 : Int32))) :
    MetFree l (⟨"java/lang/String", "<init>", "([C)V"⟩ : MethodName) (head1 (Jvm.Cond.code (⟨"java/lang/String", "<init>", "([C)V"⟩ : MethodName) jdk_42_method_3_code 2 none :: ws) ({ frames := 2, cells := 4, slots := 8, locals := 29 } : Room)) (fun a U => a = #[(.ref a1), (.ref a2)] ∧ Z.Warmed39 U.vm ∧ U.heap = h0 ∧ CHv Z own_EL U.vm h0) (fun _ _ _ _ _ => True) (fun _ U o U' => ∃ v L, o = .returned v ∧ QI1_0 Z a1 a2 k2 h0 n0 v U'.heap L ∧ CHr Z own_EL U.vm U.heap U'.vm U'.heap ∧ ReturnedEndW U o U' L ({ frames := 2, cells := 4, slots := 8, locals := 29 } : Room).cells ({ frames := 2, cells := 4, slots := 8, locals := 29 } : Room).slots) := by
  refine MetFree.of_bodySF (plainFor_of_name own_pn1) hisR ?_
  intro p e s m args below meth c s₁ Bd hml0 hP hK
  obtain ⟨rfl, hZ, hh, hCH⟩ := hP
  have hx := Bd.exec
  have hby := Bd.bytes
  have hml : c.maxLocals = 2 := hml0
  have hown : s.vm.findClass "java/lang/String" = some m.cls := findClass_of_methodNamed Bd.named
  have hnm := (name_of_methodNamed Bd.named Bd.method).1
  have X0 : Stand p l e ({ frames := 2, cells := 4, slots := 8, locals := 29 } : Room) (s.setVm s.vm) m #[(.ref a1), (.ref a2)] below meth c s₁ [] 0 0 := Stand.of_body Bd
  have e0 : s₁.heap = h0 := by rw [← hh, Bd.state]; rfl
  have N0 := Fr.nil n0
  have K0 : Keep h0 h0 [a1] := Keep.refl h0 _
  have pre0 : ∀ t, Steps p.tables e below (s₁.setTop (mkF m 0 #[.val (.ref a1), .val (.ref a2)] [])) t → Steps p.tables e below (s₁.setTop (entryFrame m #[(.ref a1), (.ref a2)] 2)) t := fun t k => castTop (own_ef_rmI1_0 m a1 a2) k
  have hS : s.Since s.vm 0 := (State.WarmedH.refl s).since 0
  have hk : 0 ≤ h0.size := Nat.zero_le _
  have CH0 := CHr.refl hCH
  have hEL := own_hEL hw
  have wS := own_wS hw
  have sf_a1 : Safe Z own_EL s.vm h0 a1 := own_safeNull hZ (hw _ (List.mem_of_getElem? (i := 8) rfl)) E_a1 F_a1_value
  obtain ⟨cl71, Ar71, q71, S71, M71, H71, G71⟩ := id V_a2
  have pre72 : ∀ t, Steps p.tables e below (s₁.setTop (mkF m 6 #[.val (.ref a1), .val (.ref a2)] [.null, (.int (0 : Int32)), (.int (0 : Int32)), (.ref a2), (.ref a1)])) t → Steps p.tables e below (s₁.setTop (entryFrame m #[(.ref a1), (.ref a2)] 2)) t := fun t k => by
    refine pre0 _ ?_
    show Steps p.tables e below (s₁.setTop (mkF m 0 #[.val (.ref a1), .val (.ref a2)] [])) _
    refine XS.aloadN X0.here hx rfl (hb hby own_d2_0) rfl rfl ?_
    show Steps p.tables e below (s₁.setTop (mkF m 1 #[.val (.ref a1), .val (.ref a2)] [(.ref a1)])) _
    refine XS.aloadN X0.here hx rfl (hb hby own_d2_1) rfl rfl ?_
    show Steps p.tables e below (s₁.setTop (mkF m 2 #[.val (.ref a1), .val (.ref a2)] [(.ref a2), (.ref a1)])) _
    refine XS.iconst X0.here hx rfl (hb hby own_d2_2) ?_
    show Steps p.tables e below (s₁.setTop (mkF m 3 #[.val (.ref a1), .val (.ref a2)] [(.int (0 : Int32)), (.ref a2), (.ref a1)])) _
    refine XS.aloadN X0.here hx rfl (hb hby own_d2_3) rfl rfl ?_
    show Steps p.tables e below (s₁.setTop (mkF m 4 #[.val (.ref a1), .val (.ref a2)] [(.ref a2), (.int (0 : Int32)), (.ref a2), (.ref a1)])) _
    refine X0.arraylength hx (by rw [e0]; exact Ar71.1) (State.isArrayOf_alike hZ.alike Ar71.2.1) (g := (mkF m 4 #[.val (.ref a1), .val (.ref a2)] [(.ref a2), (.int (0 : Int32)), (.ref a2), (.ref a1)])) rfl rfl (hb hby own_d2_4) _ ?_
    rw [len_of S71 M71]
    show Steps p.tables e below (s₁.setTop (mkF m 5 #[.val (.ref a1), .val (.ref a2)] [(.int (0 : Int32)), (.int (0 : Int32)), (.ref a2), (.ref a1)])) _
    refine XS.aconstNull X0.here hx rfl (hb hby own_d2_5) ?_
    exact k
  obtain ⟨_, _, ⟨T73, L73, k73, n73⟩, -, XC73, hSC73, hgC73, ⟨Lc73, hQ73, l73, y73, z73, CR73⟩, st73⟩ := X0.specialBackS hx (y := (⟨"java/lang/String", "<init>", "([CIILjava/lang/Void;)V"⟩ : MethodName)) rfl hown (mvT hZ (hw _ (List.mem_of_getElem? (i := 14) rfl))) (mvT hZ (hw _ (List.mem_of_getElem? (i := 15) rfl))) (mvT hZ (hw _ (List.mem_of_getElem? (i := 17) rfl))) (by decide) (backOfSH (W := 0) (rmI4_0 l Z a0 hw [] a1 a2 h0 n0 (Nat.le_trans Z0 K0.1) E_a1 F_a1_value F_a1_coder gg_a1) hZ (hw _ (List.mem_of_getElem? (i := 17) rfl)) (hw _ (List.mem_of_getElem? (i := 9) rfl)) (by decide) (by decide) hEL CH0.1) (g := (mkF m 6 #[.val (.ref a1), .val (.ref a2)] [.null, (.int (0 : Int32)), (.int (0 : Int32)), (.ref a2), (.ref a1)])) rfl (by rw [hml]; rfl) (Steps.refl _) (a := a1) (argsL := [(.ref a2), (.int (0 : Int32)), (.int (0 : Int32)), .null]) (rest := []) (lenOf own_pd3 rfl) rfl (by show 2 * 0 + _ ≤ _; exact Nat.le_of_eq rfl) (hb hby own_d2_6) (fun _ _ => ⟨rfl, e0, (by decide : 0 + 4 ≤ _), (by decide : 0 + 8 ≤ _)⟩)
  dsimp only [Pt.U, Pt.locs, Pt.cells, Pt.slots] at XC73 l73 y73 z73 st73 hQ73 hSC73 hgC73 CR73
  subst l73 y73 z73
  obtain ⟨X73, hS, hZ, hown⟩ := rebS hS (n1 := s₁.heap.size) (by rw [e0]; exact hk) XC73 hSC73 hgC73 hZ hown
  obtain ⟨b_73, kb_73, rfl, N73q, i73_4, i73_5, i73_6, i73_7, i73_8⟩ := hQ73
  have N73 := Fr.app N0 N73q
  have sf73_a1 := CHr.safe CR73 E_a1.lt sf_a1
  have CH73 := CH0.trans CR73
  have hk := Nat.le_refl T73.heap.size
  have K73 := K0.trans i73_4 (allS (Or.inl (List.mem_of_getElem? (i := 0) rfl)) all0)
  obtain ⟨fs, hr, hrun, hended, hW, hsame⟩ := X73.leave (v := none) (fun _ => rfl)
  refine ⟨_, _, pre72 _ ?_, hrun, hended, _, _, rfl, ?_, (by show CHr Z own_EL s.vm s.heap T73.vm T73.heap; rw [hh]; exact CH73.trans (CHv.at X73 hZ hEL CH73.1)), own_endW hS hk hW (hsame.mono (by decide) (by decide))⟩
  · show Steps p.tables e below (s₁.setTop (mkF m 6 #[.val (.ref a1), .val (.ref a2)] [.null, (.int (0 : Int32)), (.int (0 : Int32)), (.ref a2), (.ref a1)])) _
    refine st73.trans ?_
    show Steps p.tables e below (T73.setTop (mkF m 9 #[.val (.ref a1), .val (.ref a2)] [])) _
    exact X73.returnOut hx Bd.returns (hb hby own_d2_9) hr
  · show QI1_0 Z a1 a2 k2 h0 n0 _ T73.heap _
    exact ⟨b_73, kb_73, rfl, N73, K73, i73_5, i73_6, i73_7, i73_8⟩
def own_c0 (b : Int32) : Int32 := (nar .byte ((nar .char ((b &&& (255 : Int32)).toUInt32.toUInt16.toUInt32.toInt32)).toInt8.toInt32))
def own_c1 (b : Int32) : Int32 := (nar .byte ((nar .char ((((b.toUInt32 >>> ((8 : Int32) &&& 31).toUInt32).toInt32) &&& (255 : Int32)).toUInt32.toUInt16.toUInt32.toInt32)).toInt8.toInt32))
def own_mk (b l : Int32) : List Int32 := if l = (0 : Int32) then [] else if l = (1 : Int32) then [own_c0 b] else [own_c0 b, own_c1 b]
theorem own_mk0 {b l : Int32} (h : l = (0 : Int32)) : own_mk b l = [] := by unfold own_mk; rw [if_pos h]
theorem own_mk1 {b l : Int32} (h0 : ¬ l = (0 : Int32)) (h : l = (1 : Int32)) : own_mk b l = [own_c0 b] := by unfold own_mk; rw [if_neg h0, if_pos h]
theorem own_mk2 {b l : Int32} (h0 : ¬ l = (0 : Int32)) (h : ¬ l = (1 : Int32)) : own_mk b l = [own_c0 b, own_c1 b] := by unfold own_mk; rw [if_neg h0, if_neg h]
theorem own_mkLen (b l : Int32) : (own_mk b l).length ≤ 2 := by unfold own_mk; split <;> (try split) <;> simp
theorem own_chle (x : Int32) : ¬ (255 : Int32) < (nar .char ((x &&& (255 : Int32)).toUInt32.toUInt16.toUInt32.toInt32)) := by
  have h1 := c_mask x 255 8 (by decide) (by decide)
  have h2 := c_i2c (x &&& (255 : Int32))
  have h3 := c_i2c ((x &&& (255 : Int32)).toUInt32.toUInt16.toUInt32.toInt32)
  have e : (255 : Int32).toInt = 255 := by decide
  rw [Int32.lt_iff_toInt_lt]
  show ¬ _ < ((x &&& (255 : Int32)).toUInt32.toUInt16.toUInt32.toInt32.toUInt32.toUInt16.toUInt32.toInt32).toInt
  omega
theorem own_d1_0 : decode method_2_code 0 = .ok (.iload_n 0, 1) := by decide +kernel
theorem own_d1_1 : decode method_2_code 1 = .ok (.sipush 255, 3) := by decide +kernel
theorem own_d1_4 : decode method_2_code 4 = .ok (.iand, 1) := by decide +kernel
theorem own_d1_5 : decode method_2_code 5 = .ok (.i2c, 1) := by decide +kernel
theorem own_d1_6 : decode method_2_code 6 = .ok (.istore_n 2, 1) := by decide +kernel
theorem own_d1_7 : decode method_2_code 7 = .ok (.iload_n 0, 1) := by decide +kernel
theorem own_d1_8 : decode method_2_code 8 = .ok (.bipush 8, 2) := by decide +kernel
theorem own_d1_10 : decode method_2_code 10 = .ok (.iushr, 1) := by decide +kernel
theorem own_d1_11 : decode method_2_code 11 = .ok (.sipush 255, 3) := by decide +kernel
theorem own_d1_14 : decode method_2_code 14 = .ok (.iand, 1) := by decide +kernel
theorem own_d1_15 : decode method_2_code 15 = .ok (.i2c, 1) := by decide +kernel
theorem own_d1_16 : decode method_2_code 16 = .ok (.istore_n 3, 1) := by decide +kernel
theorem own_d1_17 : decode method_2_code 17 = .ok (.iload_n 1, 1) := by decide +kernel
theorem own_d1_18 : decode method_2_code 18 = .ok (.ifCond .ne 14, 3) := by decide +kernel
theorem own_d1_21 : decode method_2_code 21 = .ok (.new 7, 3) := by decide +kernel
theorem own_d1_24 : decode method_2_code 24 = .ok (.dup, 1) := by decide +kernel
theorem own_d1_25 : decode method_2_code 25 = .ok (.iconst 0, 1) := by decide +kernel
theorem own_d1_26 : decode method_2_code 26 = .ok (.newarray .char, 2) := by decide +kernel
theorem own_d1_28 : decode method_2_code 28 = .ok (.invokespecial 9, 3) := by decide +kernel
theorem own_pd4 : parseMethodDescriptor "([C)V" = some ⟨[(.array .char)], none⟩ := by decide +kernel
theorem own_d1_31 : decode method_2_code 31 = .ok (.areturn, 1) := by decide +kernel
theorem own_d1_32 : decode method_2_code 32 = .ok (.iload_n 1, 1) := by decide +kernel
theorem own_d1_33 : decode method_2_code 33 = .ok (.iconst 1, 1) := by decide +kernel
theorem own_d1_34 : decode method_2_code 34 = .ok (.if_icmp .ne 23, 3) := by decide +kernel
theorem own_d1_37 : decode method_2_code 37 = .ok (.iconst 1, 1) := by decide +kernel
theorem own_d1_38 : decode method_2_code 38 = .ok (.newarray .char, 2) := by decide +kernel
theorem own_d1_40 : decode method_2_code 40 = .ok (.astore 4, 2) := by decide +kernel
theorem own_d1_42 : decode method_2_code 42 = .ok (.aload 4, 2) := by decide +kernel
theorem own_d1_44 : decode method_2_code 44 = .ok (.iconst 0, 1) := by decide +kernel
theorem own_d1_45 : decode method_2_code 45 = .ok (.iload_n 2, 1) := by decide +kernel
theorem own_d1_46 : decode method_2_code 46 = .ok (.castore, 1) := by decide +kernel
theorem own_d1_47 : decode method_2_code 47 = .ok (.new 7, 3) := by decide +kernel
theorem own_d1_50 : decode method_2_code 50 = .ok (.dup, 1) := by decide +kernel
theorem own_d1_51 : decode method_2_code 51 = .ok (.aload 4, 2) := by decide +kernel
theorem own_d1_53 : decode method_2_code 53 = .ok (.invokespecial 9, 3) := by decide +kernel
theorem own_d1_56 : decode method_2_code 56 = .ok (.areturn, 1) := by decide +kernel
theorem own_d1_57 : decode method_2_code 57 = .ok (.iconst 2, 1) := by decide +kernel
theorem own_d1_58 : decode method_2_code 58 = .ok (.newarray .char, 2) := by decide +kernel
theorem own_d1_60 : decode method_2_code 60 = .ok (.astore 4, 2) := by decide +kernel
theorem own_d1_62 : decode method_2_code 62 = .ok (.aload 4, 2) := by decide +kernel
theorem own_d1_64 : decode method_2_code 64 = .ok (.iconst 0, 1) := by decide +kernel
theorem own_d1_65 : decode method_2_code 65 = .ok (.iload_n 2, 1) := by decide +kernel
theorem own_d1_66 : decode method_2_code 66 = .ok (.castore, 1) := by decide +kernel
theorem own_d1_67 : decode method_2_code 67 = .ok (.aload 4, 2) := by decide +kernel
theorem own_d1_69 : decode method_2_code 69 = .ok (.iconst 1, 1) := by decide +kernel
theorem own_d1_70 : decode method_2_code 70 = .ok (.iload_n 3, 1) := by decide +kernel
theorem own_d1_71 : decode method_2_code 71 = .ok (.castore, 1) := by decide +kernel
theorem own_d1_72 : decode method_2_code 72 = .ok (.new 7, 3) := by decide +kernel
theorem own_d1_75 : decode method_2_code 75 = .ok (.dup, 1) := by decide +kernel
theorem own_d1_76 : decode method_2_code 76 = .ok (.aload 4, 2) := by decide +kernel
theorem own_d1_78 : decode method_2_code 78 = .ok (.invokespecial 9, 3) := by decide +kernel
theorem own_d1_81 : decode method_2_code 81 = .ok (.areturn, 1) := by decide +kernel
theorem own_pn2 : plainName "com/example/postbag/postbag/broker/StoredBindingEqualsPinLaw" = true := by first | (simp [plainName, overriddenIn]; done) | decide +kernel
theorem own_ef_rmM (m : MethodId) (p1 : Int32) (p2 : Int32) : entryFrame m #[(.int p1), (.int p2)] 5 = mkF m 0 #[.val (.int p1), .val (.int p2), .unset, .unset, .unset] [] := by first | (simp [entryFrame, mkF, argsToLocals, Value.category]; done) | rfl
def QM (Z : State) (p1 : Int32) (p2 : Int32) (cw : Int32) (h0 : Heap) (n0 : Nat) (v : Option Value) (h : Heap) (L : List Loc) : Prop := ∃ r : Addr, v = some (.ref r) ∧ Fr n0 L ∧ Keep h0 h [] ∧ h0.size ≤ r ∧ own_Str Z h r (own_mk p1 p2)
set_option maxRecDepth 65536 in
set_option maxHeartbeats 40000000 in
theorem rmM (l : Launch) (Z : State) (a0 : Array Value) (hw : ∀ d ∈ tables_1, d.before a0 Z = true) (ws : List Jvm.Cond) (p1 : Int32) (p2 : Int32) (cw : Int32) (h0 : Heap) (n0 : Nat) (Z0 : n0 ≤ h0.size) (S_COMPACT_STRINGS : Sta Z h0 "java/lang/String" "COMPACT_STRINGS" "Z" (.int cw)) (hw0 : ¬ (cw = (0 : Int32))) :
    MetFree l (⟨"com/example/postbag/postbag/broker/StoredBindingEqualsPinLaw", "mk", "(II)Ljava/lang/String;"⟩ : MethodName) (head1 (Jvm.Cond.code (⟨"com/example/postbag/postbag/broker/StoredBindingEqualsPinLaw", "mk", "(II)Ljava/lang/String;"⟩ : MethodName) method_2_code 5 (some (.object "java/lang/String")) :: ws) ({ frames := 4, cells := 6, slots := 12, locals := 66 } : Room)) (fun a U => a = #[(.int p1), (.int p2)] ∧ Z.Warmed39 U.vm ∧ U.heap = h0 ∧ CHv Z own_EL U.vm h0) (fun _ _ _ _ _ => True) (fun _ U o U' => ∃ v L, o = .returned v ∧ QM Z p1 p2 cw h0 n0 v U'.heap L ∧ CHr Z own_EL U.vm U.heap U'.vm U'.heap ∧ ReturnedEndW U o U' L ({ frames := 4, cells := 6, slots := 12, locals := 66 } : Room).cells ({ frames := 4, cells := 6, slots := 12, locals := 66 } : Room).slots) := by
  refine MetFree.of_bodySF (plainFor_of_name own_pn2) hisR ?_
  intro p e s m args below meth c s₁ Bd hml0 hP hK
  obtain ⟨rfl, hZ, hh, hCH⟩ := hP
  have hx := Bd.exec
  have hby := Bd.bytes
  have hml : c.maxLocals = 5 := hml0
  have hown : s.vm.findClass "com/example/postbag/postbag/broker/StoredBindingEqualsPinLaw" = some m.cls := findClass_of_methodNamed Bd.named
  have hnm := (name_of_methodNamed Bd.named Bd.method).1
  have X0 : Stand p l e ({ frames := 4, cells := 6, slots := 12, locals := 66 } : Room) (s.setVm s.vm) m #[(.int p1), (.int p2)] below meth c s₁ [] 0 0 := Stand.of_body Bd
  have e0 : s₁.heap = h0 := by rw [← hh, Bd.state]; rfl
  have N0 := Fr.nil n0
  have K0 : Keep h0 h0 [] := Keep.refl h0 _
  have pre0 : ∀ t, Steps p.tables e below (s₁.setTop (mkF m 0 #[.val (.int p1), .val (.int p2), .unset, .unset, .unset] [])) t → Steps p.tables e below (s₁.setTop (entryFrame m #[(.int p1), (.int p2)] 5)) t := fun t k => castTop (own_ef_rmM m p1 p2) k
  have hS : s.Since s.vm 0 := (State.WarmedH.refl s).since 0
  have hk : 0 ≤ h0.size := Nat.zero_le _
  have CH0 := CHr.refl hCH
  have hEL := own_hEL hw
  have wS := own_wS hw
  have pre74 : ∀ t, Steps p.tables e below (s₁.setTop (mkF m 18 #[.val (.int p1), .val (.int p2), .val (.int ((p1 &&& (255 : Int32)).toUInt32.toUInt16.toUInt32.toInt32)), .val (.int ((((p1.toUInt32 >>> ((8 : Int32) &&& 31).toUInt32).toInt32) &&& (255 : Int32)).toUInt32.toUInt16.toUInt32.toInt32)), .unset] [(.int p2)])) t → Steps p.tables e below (s₁.setTop (entryFrame m #[(.int p1), (.int p2)] 5)) t := fun t k => by
    refine pre0 _ ?_
    show Steps p.tables e below (s₁.setTop (mkF m 0 #[.val (.int p1), .val (.int p2), .unset, .unset, .unset] [])) _
    refine XS.iloadN X0.here hx rfl (hb hby own_d1_0) rfl ?_
    show Steps p.tables e below (s₁.setTop (mkF m 1 #[.val (.int p1), .val (.int p2), .unset, .unset, .unset] [(.int p1)])) _
    refine XS.sipush X0.here hx rfl (hb hby own_d1_1) ?_
    show Steps p.tables e below (s₁.setTop (mkF m 4 #[.val (.int p1), .val (.int p2), .unset, .unset, .unset] [(.int (255 : Int32)), (.int p1)])) _
    refine XS.iand X0.here hx rfl (hb hby own_d1_4) rfl ?_
    show Steps p.tables e below (s₁.setTop (mkF m 5 #[.val (.int p1), .val (.int p2), .unset, .unset, .unset] [(.int (p1 &&& (255 : Int32)))])) _
    refine XS.i2c X0.here hx rfl (hb hby own_d1_5) rfl ?_
    show Steps p.tables e below (s₁.setTop (mkF m 6 #[.val (.int p1), .val (.int p2), .unset, .unset, .unset] [(.int ((p1 &&& (255 : Int32)).toUInt32.toUInt16.toUInt32.toInt32))])) _
    refine XS.istoreN X0.here hx rfl (hb hby own_d1_6) rfl (l' := #[.val (.int p1), .val (.int p2), .val (.int ((p1 &&& (255 : Int32)).toUInt32.toUInt16.toUInt32.toInt32)), .unset, .unset]) rfl ?_
    show Steps p.tables e below (s₁.setTop (mkF m 7 #[.val (.int p1), .val (.int p2), .val (.int ((p1 &&& (255 : Int32)).toUInt32.toUInt16.toUInt32.toInt32)), .unset, .unset] [])) _
    refine XS.iloadN X0.here hx rfl (hb hby own_d1_7) rfl ?_
    show Steps p.tables e below (s₁.setTop (mkF m 8 #[.val (.int p1), .val (.int p2), .val (.int ((p1 &&& (255 : Int32)).toUInt32.toUInt16.toUInt32.toInt32)), .unset, .unset] [(.int p1)])) _
    refine XS.bipush X0.here hx rfl (hb hby own_d1_8) ?_
    show Steps p.tables e below (s₁.setTop (mkF m 10 #[.val (.int p1), .val (.int p2), .val (.int ((p1 &&& (255 : Int32)).toUInt32.toUInt16.toUInt32.toInt32)), .unset, .unset] [(.int (8 : Int32)), (.int p1)])) _
    refine XS.iushr X0.here hx rfl (hb hby own_d1_10) rfl ?_
    show Steps p.tables e below (s₁.setTop (mkF m 11 #[.val (.int p1), .val (.int p2), .val (.int ((p1 &&& (255 : Int32)).toUInt32.toUInt16.toUInt32.toInt32)), .unset, .unset] [(.int ((p1.toUInt32 >>> ((8 : Int32) &&& 31).toUInt32).toInt32))])) _
    refine XS.sipush X0.here hx rfl (hb hby own_d1_11) ?_
    show Steps p.tables e below (s₁.setTop (mkF m 14 #[.val (.int p1), .val (.int p2), .val (.int ((p1 &&& (255 : Int32)).toUInt32.toUInt16.toUInt32.toInt32)), .unset, .unset] [(.int (255 : Int32)), (.int ((p1.toUInt32 >>> ((8 : Int32) &&& 31).toUInt32).toInt32))])) _
    refine XS.iand X0.here hx rfl (hb hby own_d1_14) rfl ?_
    show Steps p.tables e below (s₁.setTop (mkF m 15 #[.val (.int p1), .val (.int p2), .val (.int ((p1 &&& (255 : Int32)).toUInt32.toUInt16.toUInt32.toInt32)), .unset, .unset] [(.int (((p1.toUInt32 >>> ((8 : Int32) &&& 31).toUInt32).toInt32) &&& (255 : Int32)))])) _
    refine XS.i2c X0.here hx rfl (hb hby own_d1_15) rfl ?_
    show Steps p.tables e below (s₁.setTop (mkF m 16 #[.val (.int p1), .val (.int p2), .val (.int ((p1 &&& (255 : Int32)).toUInt32.toUInt16.toUInt32.toInt32)), .unset, .unset] [(.int ((((p1.toUInt32 >>> ((8 : Int32) &&& 31).toUInt32).toInt32) &&& (255 : Int32)).toUInt32.toUInt16.toUInt32.toInt32))])) _
    refine XS.istoreN X0.here hx rfl (hb hby own_d1_16) rfl (l' := #[.val (.int p1), .val (.int p2), .val (.int ((p1 &&& (255 : Int32)).toUInt32.toUInt16.toUInt32.toInt32)), .val (.int ((((p1.toUInt32 >>> ((8 : Int32) &&& 31).toUInt32).toInt32) &&& (255 : Int32)).toUInt32.toUInt16.toUInt32.toInt32)), .unset]) rfl ?_
    show Steps p.tables e below (s₁.setTop (mkF m 17 #[.val (.int p1), .val (.int p2), .val (.int ((p1 &&& (255 : Int32)).toUInt32.toUInt16.toUInt32.toInt32)), .val (.int ((((p1.toUInt32 >>> ((8 : Int32) &&& 31).toUInt32).toInt32) &&& (255 : Int32)).toUInt32.toUInt16.toUInt32.toInt32)), .unset] [])) _
    refine XS.iloadN X0.here hx rfl (hb hby own_d1_17) rfl ?_
    exact k
  by_cases hc18 : p2 = (0 : Int32)
  · obtain ⟨T75, h75, X75, e75, E75, A75, D75, -, st75⟩ := newO X0 hx hZ hown (hw _ (List.mem_of_getElem? (i := 7) rfl)) (hw _ (List.mem_of_getElem? (i := 8) rfl)) (hw _ (List.mem_of_getElem? (i := 9) rfl)) e0 (g := (mkF m 21 #[.val (.int p1), .val (.int p2), .val (.int ((p1 &&& (255 : Int32)).toUInt32.toUInt16.toUInt32.toInt32)), .val (.int ((((p1.toUInt32 >>> ((8 : Int32) &&& 31).toUInt32).toInt32) &&& (255 : Int32)).toUInt32.toUInt16.toUInt32.toInt32)), .unset] [])) rfl (hb hby own_d1_21) (by decide) (by decide)
    obtain ⟨b75, g75⟩ : ∃ z, z = h0.size := ⟨_, rfl⟩
    rw [← g75] at A75 D75 st75
    have gg_b75 : n0 ≤ b75 := Nat.le_trans (Nat.le_trans Z0 K0.1) (Nat.le_of_eq g75.symm)
    have sz_b75 : h0.size ≤ b75 := Nat.le_trans K0.1 (Nat.le_of_eq g75.symm)
    have K75 := K0.ext E75
    have sf75_b75 := Safe.ext E75 CH0.1 (Safe.new (Nat.le_of_eq g75.symm) : Safe Z own_EL _ _ b75)
    have CH75 := CH0.trans (CHr.ext E75 CH0.1)
    have hk := Nat.le_trans hk E75.1
    have F75_value : Fld Z h75 b75 "java/lang/String" "value" "[B" .null := D75 (Or.inr (hw _ (List.mem_of_getElem? (i := 23) rfl))) (ty := (.array .byte)) (by decide)
    have F75_coder : Fld Z h75 b75 "java/lang/String" "coder" "B" (.int (0 : Int32)) := D75 (Or.inr (hw _ (List.mem_of_getElem? (i := 24) rfl))) (ty := .byte) (by decide)
    obtain ⟨T76, h76, k76, X76, e76, E76, A76, st76⟩ := newP X75 hx hZ (hw _ (List.mem_of_getElem? (i := 10) rfl)) e75 (g := (mkF m 26 #[.val (.int p1), .val (.int p2), .val (.int ((p1 &&& (255 : Int32)).toUInt32.toUInt16.toUInt32.toInt32)), .val (.int ((((p1.toUInt32 >>> ((8 : Int32) &&& 31).toUInt32).toInt32) &&& (255 : Int32)).toUInt32.toUInt16.toUInt32.toInt32)), .unset] [(.int (0 : Int32)), (.ref b75), (.ref b75)])) rfl (hb hby own_d1_26) rfl (by decide) (cap := 0) (by decide) (by decide) (by decide) (by decide)
    obtain ⟨b76, g76⟩ : ∃ z, z = h75.size := ⟨_, rfl⟩
    rw [← g76] at A76 st76
    have ne_b75_b76 : b75 ≠ b76 := Nat.ne_of_lt (Nat.lt_of_lt_of_le A75.lt (Nat.le_of_eq g76.symm))
    have gg_b76 : n0 ≤ b76 := Nat.le_trans (Nat.le_trans Z0 K75.1) (Nat.le_of_eq g76.symm)
    have sz_b76 : h0.size ≤ b76 := Nat.le_trans K75.1 (Nat.le_of_eq g76.symm)
    have K76 := K75.ext E76
    have sf76_b76 := Safe.ext E76 CH75.1 (Safe.new (Nat.le_of_eq g76.symm) : Safe Z own_EL _ _ b76)
    have sf76_b75 := Safe.ext E76 CH75.1 sf75_b75
    have CH76 := CH75.trans (CHr.ext E76 CH75.1)
    have hk := Nat.le_trans hk E76.1
    have V76 : Arv Z h76 b76 k76 .char (0 : Int32) [] (.int (0 : Int32)) := (Arv.new A76 (by decide)).pad (pad_rep [] (.int (0 : Int32)) 0)
    have Q77 := (A75.ext E76)
    have Q78 := (F75_value.ext E76)
    have Q79 := (F75_coder.ext E76)
    have pre80 : ∀ t, Steps p.tables e below (T76.setTop (mkF m 28 #[.val (.int p1), .val (.int p2), .val (.int ((p1 &&& (255 : Int32)).toUInt32.toUInt16.toUInt32.toInt32)), .val (.int ((((p1.toUInt32 >>> ((8 : Int32) &&& 31).toUInt32).toInt32) &&& (255 : Int32)).toUInt32.toUInt16.toUInt32.toInt32)), .unset] [(.ref b76), (.ref b75), (.ref b75)])) t → Steps p.tables e below (s₁.setTop (entryFrame m #[(.int p1), (.int p2)] 5)) t := fun t k => by
      refine pre74 _ ?_
      show Steps p.tables e below (s₁.setTop (mkF m 18 #[.val (.int p1), .val (.int p2), .val (.int ((p1 &&& (255 : Int32)).toUInt32.toUInt16.toUInt32.toInt32)), .val (.int ((((p1.toUInt32 >>> ((8 : Int32) &&& 31).toUInt32).toInt32) &&& (255 : Int32)).toUInt32.toUInt16.toUInt32.toInt32)), .unset] [(.int p2)])) _
      refine XS.ifNo X0.here hx rfl (hb hby own_d1_18) rfl ((if0 _ _).trans (teq hc18).2) ?_
      show Steps p.tables e below (s₁.setTop (mkF m 21 #[.val (.int p1), .val (.int p2), .val (.int ((p1 &&& (255 : Int32)).toUInt32.toUInt16.toUInt32.toInt32)), .val (.int ((((p1.toUInt32 >>> ((8 : Int32) &&& 31).toUInt32).toInt32) &&& (255 : Int32)).toUInt32.toUInt16.toUInt32.toInt32)), .unset] [])) _
      refine st75 _ ?_
      show Steps p.tables e below (T75.setTop (mkF m 24 #[.val (.int p1), .val (.int p2), .val (.int ((p1 &&& (255 : Int32)).toUInt32.toUInt16.toUInt32.toInt32)), .val (.int ((((p1.toUInt32 >>> ((8 : Int32) &&& 31).toUInt32).toInt32) &&& (255 : Int32)).toUInt32.toUInt16.toUInt32.toInt32)), .unset] [(.ref b75)])) _
      refine XS.dup X75.here hx rfl (hb hby own_d1_24) rfl rfl ?_
      show Steps p.tables e below (T75.setTop (mkF m 25 #[.val (.int p1), .val (.int p2), .val (.int ((p1 &&& (255 : Int32)).toUInt32.toUInt16.toUInt32.toInt32)), .val (.int ((((p1.toUInt32 >>> ((8 : Int32) &&& 31).toUInt32).toInt32) &&& (255 : Int32)).toUInt32.toUInt16.toUInt32.toInt32)), .unset] [(.ref b75), (.ref b75)])) _
      refine XS.iconst X75.here hx rfl (hb hby own_d1_25) ?_
      show Steps p.tables e below (T75.setTop (mkF m 26 #[.val (.int p1), .val (.int p2), .val (.int ((p1 &&& (255 : Int32)).toUInt32.toUInt16.toUInt32.toInt32)), .val (.int ((((p1.toUInt32 >>> ((8 : Int32) &&& 31).toUInt32).toInt32) &&& (255 : Int32)).toUInt32.toUInt16.toUInt32.toInt32)), .unset] [(.int (0 : Int32)), (.ref b75), (.ref b75)])) _
      refine st76 _ ?_
      exact k
    obtain ⟨_, _, ⟨T81, L81, k81, n81⟩, -, XC81, hSC81, hgC81, ⟨Lc81, hQ81, l81, y81, z81, CR81⟩, st81⟩ := X76.specialBackS hx (y := (⟨"java/lang/String", "<init>", "([C)V"⟩ : MethodName)) rfl hown (mvT hZ (hw _ (List.mem_of_getElem? (i := 11) rfl))) (mvT hZ (hw _ (List.mem_of_getElem? (i := 12) rfl))) (mvT hZ (hw _ (List.mem_of_getElem? (i := 13) rfl))) (by decide) (backOfSH (W := 1) (rmI1_0 l Z a0 hw [] b75 b76 k76 h76 n0 (Nat.le_trans Z0 K76.1) Q77 Q78 Q79 gg_b75 V76) hZ (hw _ (List.mem_of_getElem? (i := 13) rfl)) (hw _ (List.mem_of_getElem? (i := 9) rfl)) (by decide) (by decide) hEL CH76.1) (g := (mkF m 28 #[.val (.int p1), .val (.int p2), .val (.int ((p1 &&& (255 : Int32)).toUInt32.toUInt16.toUInt32.toInt32)), .val (.int ((((p1.toUInt32 >>> ((8 : Int32) &&& 31).toUInt32).toInt32) &&& (255 : Int32)).toUInt32.toUInt16.toUInt32.toInt32)), .unset] [(.ref b76), (.ref b75), (.ref b75)])) rfl (by rw [hml]; rfl) (Steps.refl _) (a := b75) (argsL := [(.ref b76)]) (rest := [(.ref b75)]) (lenOf own_pd4 rfl) rfl (by show 2 * 0 + _ ≤ _; exact Nat.le_of_eq rfl) (hb hby own_d1_28) (fun _ _ => ⟨rfl, e76, (by decide : 2 + 4 ≤ _), (by decide : 4 + 8 ≤ _)⟩)
    dsimp only [Pt.U, Pt.locs, Pt.cells, Pt.slots] at XC81 l81 y81 z81 st81 hQ81 hSC81 hgC81 CR81
    subst l81 y81 z81
    obtain ⟨X81, hS, hZ, hown⟩ := rebS hS (n1 := T76.heap.size) (by rw [e76]; exact hk) XC81 hSC81 hgC81 hZ hown
    obtain ⟨b_81, kb_81, rfl, N81q, i81_4, i81_5, i81_6, i81_7, i81_8⟩ := hQ81
    have N81 := Fr.app N0 N81q
    have sf81_b75 := CHr.safe CR81 Q77.lt sf76_b75
    have sf81_b76 := CHr.safe CR81 V76.lt sf76_b76
    have CH81 := CH76.trans CR81
    have hk := Nat.le_refl T81.heap.size
    have K81 := K76.trans i81_4 (allS (Or.inr sz_b75) all0)
    obtain ⟨fs, hr, hrun, hended, hW, hsame⟩ := X81.leave (v := some (.ref b75)) (fun h => by rw [Bd.returns] at h; cases h)
    refine ⟨_, _, pre80 _ ?_, hrun, hended, _, _, rfl, ?_, (by show CHr Z own_EL s.vm s.heap T81.vm T81.heap; rw [hh]; exact CH81.trans (CHv.at X81 hZ hEL CH81.1)), own_endW hS hk hW (hsame.mono (by decide) (by decide))⟩
    · show Steps p.tables e below (T76.setTop (mkF m 28 #[.val (.int p1), .val (.int p2), .val (.int ((p1 &&& (255 : Int32)).toUInt32.toUInt16.toUInt32.toInt32)), .val (.int ((((p1.toUInt32 >>> ((8 : Int32) &&& 31).toUInt32).toInt32) &&& (255 : Int32)).toUInt32.toUInt16.toUInt32.toInt32)), .unset] [(.ref b76), (.ref b75), (.ref b75)])) _
      refine st81.trans ?_
      show Steps p.tables e below (T81.setTop (mkF m 31 #[.val (.int p1), .val (.int p2), .val (.int ((p1 &&& (255 : Int32)).toUInt32.toUInt16.toUInt32.toInt32)), .val (.int ((((p1.toUInt32 >>> ((8 : Int32) &&& 31).toUInt32).toInt32) &&& (255 : Int32)).toUInt32.toUInt16.toUInt32.toInt32)), .unset] [(.ref b75)])) _
      jvm_step X81.here [X81.here.top, hx, (hb hby own_d1_31), X81.method', Bd.returns, Value.isRef, FieldType.isReference]
      first | (intro acts; rw [hr _ acts rfl rfl rfl]) | rw [hr _ _ rfl rfl rfl]
      exact Steps.refl _
    · show QM Z p1 p2 cw h0 n0 _ T81.heap _
      exact ⟨b75, rfl, N81, K81, sz_b75, (by rw [own_mk0 hc18]; exact ⟨i81_5, i81_6, b_81, kb_81, i81_7, i81_8⟩)⟩
  · have pre82 : ∀ t, Steps p.tables e below (s₁.setTop (mkF m 34 #[.val (.int p1), .val (.int p2), .val (.int ((p1 &&& (255 : Int32)).toUInt32.toUInt16.toUInt32.toInt32)), .val (.int ((((p1.toUInt32 >>> ((8 : Int32) &&& 31).toUInt32).toInt32) &&& (255 : Int32)).toUInt32.toUInt16.toUInt32.toInt32)), .unset] [(.int (1 : Int32)), (.int p2)])) t → Steps p.tables e below (s₁.setTop (entryFrame m #[(.int p1), (.int p2)] 5)) t := fun t k => by
      refine pre74 _ ?_
      show Steps p.tables e below (s₁.setTop (mkF m 18 #[.val (.int p1), .val (.int p2), .val (.int ((p1 &&& (255 : Int32)).toUInt32.toUInt16.toUInt32.toInt32)), .val (.int ((((p1.toUInt32 >>> ((8 : Int32) &&& 31).toUInt32).toInt32) &&& (255 : Int32)).toUInt32.toUInt16.toUInt32.toInt32)), .unset] [(.int p2)])) _
      refine XS.ifYes X0.here hx rfl (pc0 := 18) (pc' := 32) rfl (hb hby own_d1_18) rfl ((if0 _ _).trans (feq hc18).2) (by decide) (by decide) ?_
      show Steps p.tables e below (s₁.setTop (mkF m 32 #[.val (.int p1), .val (.int p2), .val (.int ((p1 &&& (255 : Int32)).toUInt32.toUInt16.toUInt32.toInt32)), .val (.int ((((p1.toUInt32 >>> ((8 : Int32) &&& 31).toUInt32).toInt32) &&& (255 : Int32)).toUInt32.toUInt16.toUInt32.toInt32)), .unset] [])) _
      refine XS.iloadN X0.here hx rfl (hb hby own_d1_32) rfl ?_
      show Steps p.tables e below (s₁.setTop (mkF m 33 #[.val (.int p1), .val (.int p2), .val (.int ((p1 &&& (255 : Int32)).toUInt32.toUInt16.toUInt32.toInt32)), .val (.int ((((p1.toUInt32 >>> ((8 : Int32) &&& 31).toUInt32).toInt32) &&& (255 : Int32)).toUInt32.toUInt16.toUInt32.toInt32)), .unset] [(.int p2)])) _
      refine XS.iconst X0.here hx rfl (hb hby own_d1_33) ?_
      exact k
    by_cases hc34 : p2 = (1 : Int32)
    · obtain ⟨T83, h83, k83, X83, e83, E83, A83, st83⟩ := newP X0 hx hZ (hw _ (List.mem_of_getElem? (i := 10) rfl)) e0 (g := (mkF m 38 #[.val (.int p1), .val (.int p2), .val (.int ((p1 &&& (255 : Int32)).toUInt32.toUInt16.toUInt32.toInt32)), .val (.int ((((p1.toUInt32 >>> ((8 : Int32) &&& 31).toUInt32).toInt32) &&& (255 : Int32)).toUInt32.toUInt16.toUInt32.toInt32)), .unset] [(.int (1 : Int32))])) rfl (hb hby own_d1_38) rfl (by decide) (cap := 1) (by decide) (by decide) (by decide) (by decide)
      obtain ⟨b83, g83⟩ : ∃ z, z = h0.size := ⟨_, rfl⟩
      rw [← g83] at A83 st83
      have gg_b83 : n0 ≤ b83 := Nat.le_trans (Nat.le_trans Z0 K0.1) (Nat.le_of_eq g83.symm)
      have sz_b83 : h0.size ≤ b83 := Nat.le_trans K0.1 (Nat.le_of_eq g83.symm)
      have K83 := K0.ext E83
      have sf83_b83 := Safe.ext E83 CH0.1 (Safe.new (Nat.le_of_eq g83.symm) : Safe Z own_EL _ _ b83)
      have CH83 := CH0.trans (CHr.ext E83 CH0.1)
      have hk := Nat.le_trans hk E83.1
      have V83 : Arv Z h83 b83 k83 .char (1 : Int32) [(.int (0 : Int32))] (.int (0 : Int32)) := (Arv.new A83 (by decide)).pad (pad_rep [] (.int (0 : Int32)) 1)
      obtain ⟨cl84, Ar84, q84, S84, M84, H84, G84⟩ := id V83
      have hin84 : ¬ ((0 : Int32) < 0 ∨ cl84.slots.size ≤ ((0 : Int32)).toNatClampNeg) := inb_of S84 ⟨by decide, by decide⟩
      obtain ⟨T85, h85, X85, e85, W85, st85⟩ := stC X83 hx hZ e83 Ar84 (j := (0 : Int32)) hin84 (g := (mkF m 46 #[.val (.int p1), .val (.int p2), .val (.int ((p1 &&& (255 : Int32)).toUInt32.toUInt16.toUInt32.toInt32)), .val (.int ((((p1.toUInt32 >>> ((8 : Int32) &&& 31).toUInt32).toInt32) &&& (255 : Int32)).toUInt32.toUInt16.toUInt32.toInt32)), .val (.ref b83)] [(.int ((p1 &&& (255 : Int32)).toUInt32.toUInt16.toUInt32.toInt32)), (.int (0 : Int32)), (.ref b83)])) rfl rfl (hb hby own_d1_46)
      have V85 : Arv Z h85 b83 k83 .char (1 : Int32) [(.int (nar .char ((p1 &&& (255 : Int32)).toUInt32.toUInt16.toUInt32.toInt32)))] (.int (0 : Int32)) := Arv.set Ar84 q84 S84 M84 H84 G84 (fits_nar_char _) W85 0 rfl (Nat.le_of_ble_eq_true rfl)
      have K85 := K83.wr W85 (Or.inr sz_b83)
      have N85 := Fr.snoc X85 N0 gg_b83
      have sf85_b83 := Safe.wr W85 sf83_b83 CH83.1 sf83_b83
      have CH85 := CH83.trans (CHr.wr W85 sf83_b83 CH83.1)
      have hk := Nat.le_trans hk (Keep.of_wr W85).1
      obtain ⟨T86, h86, X86, e86, E86, A86, D86, -, st86⟩ := newO X85 hx hZ hown (hw _ (List.mem_of_getElem? (i := 7) rfl)) (hw _ (List.mem_of_getElem? (i := 8) rfl)) (hw _ (List.mem_of_getElem? (i := 9) rfl)) e85 (g := (mkF m 47 #[.val (.int p1), .val (.int p2), .val (.int ((p1 &&& (255 : Int32)).toUInt32.toUInt16.toUInt32.toInt32)), .val (.int ((((p1.toUInt32 >>> ((8 : Int32) &&& 31).toUInt32).toInt32) &&& (255 : Int32)).toUInt32.toUInt16.toUInt32.toInt32)), .val (.ref b83)] [])) rfl (hb hby own_d1_47) (by decide) (by decide)
      obtain ⟨b86, g86⟩ : ∃ z, z = h85.size := ⟨_, rfl⟩
      rw [← g86] at A86 D86 st86
      have ne_b83_b86 : b83 ≠ b86 := Nat.ne_of_lt (Nat.lt_of_lt_of_le V85.lt (Nat.le_of_eq g86.symm))
      have gg_b86 : n0 ≤ b86 := Nat.le_trans (Nat.le_trans Z0 K85.1) (Nat.le_of_eq g86.symm)
      have sz_b86 : h0.size ≤ b86 := Nat.le_trans K85.1 (Nat.le_of_eq g86.symm)
      have K86 := K85.ext E86
      have sf86_b86 := Safe.ext E86 CH85.1 (Safe.new (Nat.le_of_eq g86.symm) : Safe Z own_EL _ _ b86)
      have sf86_b83 := Safe.ext E86 CH85.1 sf85_b83
      have CH86 := CH85.trans (CHr.ext E86 CH85.1)
      have hk := Nat.le_trans hk E86.1
      have F86_value : Fld Z h86 b86 "java/lang/String" "value" "[B" .null := D86 (Or.inr (hw _ (List.mem_of_getElem? (i := 23) rfl))) (ty := (.array .byte)) (by decide)
      have F86_coder : Fld Z h86 b86 "java/lang/String" "coder" "B" (.int (0 : Int32)) := D86 (Or.inr (hw _ (List.mem_of_getElem? (i := 24) rfl))) (ty := .byte) (by decide)
      have Q87 := (((S_COMPACT_STRINGS.ext E83).wr W85).ext E86)
      have Q88 := (V85.ext E86)
      obtain ⟨_, _, ⟨T89, L89, k89, n89⟩, -, X89, ⟨Lc89, hQ89, l89, y89, z89⟩, st89⟩ := X86.specialBack hx (y := (⟨"java/lang/String", "<init>", "([C)V"⟩ : MethodName)) rfl hown (mvT hZ (hw _ (List.mem_of_getElem? (i := 11) rfl))) (mvT hZ (hw _ (List.mem_of_getElem? (i := 12) rfl))) (mvT hZ (hw _ (List.mem_of_getElem? (i := 13) rfl))) (by decide) (backOf (W := 1) (rmI1_1 l Z a0 hw [] b86 b83 cw k83 (nar .char ((p1 &&& (255 : Int32)).toUInt32.toUInt16.toUInt32.toInt32)) h86 n0 (Nat.le_trans Z0 K86.1) A86 F86_value F86_coder gg_b86 Q87 hw0 Q88 (own_chle _)) hZ (hw _ (List.mem_of_getElem? (i := 13) rfl)) (hw _ (List.mem_of_getElem? (i := 9) rfl)) (by decide) (by decide)) (g := (mkF m 53 #[.val (.int p1), .val (.int p2), .val (.int ((p1 &&& (255 : Int32)).toUInt32.toUInt16.toUInt32.toInt32)), .val (.int ((((p1.toUInt32 >>> ((8 : Int32) &&& 31).toUInt32).toInt32) &&& (255 : Int32)).toUInt32.toUInt16.toUInt32.toInt32)), .val (.ref b83)] [(.ref b83), (.ref b86), (.ref b86)])) rfl (by rw [hml]; rfl) (Steps.refl _) (a := b86) (argsL := [(.ref b83)]) (rest := [(.ref b86)]) (lenOf own_pd4 rfl) rfl (by show 2 * 0 + _ ≤ _; exact Nat.le_of_eq rfl) (hb hby own_d1_53) (fun _ _ => ⟨rfl, e86, (by decide : 2 + 1 ≤ _), (by decide : 5 + 1 ≤ _)⟩)
      dsimp only [Pt.U, Pt.locs, Pt.cells, Pt.slots] at X89 l89 y89 z89 st89 hQ89
      subst l89 y89 z89
      obtain ⟨b_89, kb_89, rfl, N89q, i89_4, i89_5, i89_6, i89_7, i89_8, i89_9⟩ := hQ89
      have N89 := Fr.app N85 N89q
      have ne_b83_b_89 : b83 ≠ b_89 := Nat.ne_of_lt (Nat.lt_of_lt_of_le Q88.lt i89_5)
      have ne_b86_b_89 : b86 ≠ b_89 := Nat.ne_of_lt (Nat.lt_of_lt_of_le A86.lt i89_5)
      have gg_b_89 : n0 ≤ b_89 := Nat.le_trans (Nat.le_trans Z0 K86.1) i89_5
      have sz_b_89 : h0.size ≤ b_89 := Nat.le_trans K86.1 i89_5
      have sf89_b83 := Safe.keep i89_4 (sfS sf86_b86 sf0) CH86.1 sf86_b83
      have sf89_b86 := Safe.keep i89_4 (sfS sf86_b86 sf0) CH86.1 sf86_b86
      have CH89 := CH86.trans (CHr.keep i89_4 (sfS sf86_b86 sf0) CH86.1)
      have hk := Nat.le_trans hk i89_4.1
      have K89 := K86.trans i89_4 (allS (Or.inr sz_b86) all0)
      obtain ⟨fs, hr, hrun, hended, hW, hsame⟩ := X89.leave (v := some (.ref b86)) (fun h => by rw [Bd.returns] at h; cases h)
      refine ⟨_, _, pre82 _ ?_, hrun, hended, _, _, rfl, ?_, (by show CHr Z own_EL s.vm s.heap T89.vm T89.heap; rw [hh]; exact CH89.trans (CHv.at X89 hZ hEL CH89.1)), own_endW hS hk hW (hsame.mono (by decide) (by decide))⟩
      · show Steps p.tables e below (s₁.setTop (mkF m 34 #[.val (.int p1), .val (.int p2), .val (.int ((p1 &&& (255 : Int32)).toUInt32.toUInt16.toUInt32.toInt32)), .val (.int ((((p1.toUInt32 >>> ((8 : Int32) &&& 31).toUInt32).toInt32) &&& (255 : Int32)).toUInt32.toUInt16.toUInt32.toInt32)), .unset] [(.int (1 : Int32)), (.int p2)])) _
        refine XS.icmpNo X0.here hx rfl (hb hby own_d1_34) rfl (teq hc34).2 ?_
        show Steps p.tables e below (s₁.setTop (mkF m 37 #[.val (.int p1), .val (.int p2), .val (.int ((p1 &&& (255 : Int32)).toUInt32.toUInt16.toUInt32.toInt32)), .val (.int ((((p1.toUInt32 >>> ((8 : Int32) &&& 31).toUInt32).toInt32) &&& (255 : Int32)).toUInt32.toUInt16.toUInt32.toInt32)), .unset] [])) _
        refine XS.iconst X0.here hx rfl (hb hby own_d1_37) ?_
        show Steps p.tables e below (s₁.setTop (mkF m 38 #[.val (.int p1), .val (.int p2), .val (.int ((p1 &&& (255 : Int32)).toUInt32.toUInt16.toUInt32.toInt32)), .val (.int ((((p1.toUInt32 >>> ((8 : Int32) &&& 31).toUInt32).toInt32) &&& (255 : Int32)).toUInt32.toUInt16.toUInt32.toInt32)), .unset] [(.int (1 : Int32))])) _
        refine st83 _ ?_
        show Steps p.tables e below (T83.setTop (mkF m 40 #[.val (.int p1), .val (.int p2), .val (.int ((p1 &&& (255 : Int32)).toUInt32.toUInt16.toUInt32.toInt32)), .val (.int ((((p1.toUInt32 >>> ((8 : Int32) &&& 31).toUInt32).toInt32) &&& (255 : Int32)).toUInt32.toUInt16.toUInt32.toInt32)), .unset] [(.ref b83)])) _
        refine XS.astore X83.here hx rfl (hb hby own_d1_40) rfl rfl (l' := #[.val (.int p1), .val (.int p2), .val (.int ((p1 &&& (255 : Int32)).toUInt32.toUInt16.toUInt32.toInt32)), .val (.int ((((p1.toUInt32 >>> ((8 : Int32) &&& 31).toUInt32).toInt32) &&& (255 : Int32)).toUInt32.toUInt16.toUInt32.toInt32)), .val (.ref b83)]) rfl ?_
        show Steps p.tables e below (T83.setTop (mkF m 42 #[.val (.int p1), .val (.int p2), .val (.int ((p1 &&& (255 : Int32)).toUInt32.toUInt16.toUInt32.toInt32)), .val (.int ((((p1.toUInt32 >>> ((8 : Int32) &&& 31).toUInt32).toInt32) &&& (255 : Int32)).toUInt32.toUInt16.toUInt32.toInt32)), .val (.ref b83)] [])) _
        refine XS.aload X83.here hx rfl (hb hby own_d1_42) rfl rfl ?_
        show Steps p.tables e below (T83.setTop (mkF m 44 #[.val (.int p1), .val (.int p2), .val (.int ((p1 &&& (255 : Int32)).toUInt32.toUInt16.toUInt32.toInt32)), .val (.int ((((p1.toUInt32 >>> ((8 : Int32) &&& 31).toUInt32).toInt32) &&& (255 : Int32)).toUInt32.toUInt16.toUInt32.toInt32)), .val (.ref b83)] [(.ref b83)])) _
        refine XS.iconst X83.here hx rfl (hb hby own_d1_44) ?_
        show Steps p.tables e below (T83.setTop (mkF m 45 #[.val (.int p1), .val (.int p2), .val (.int ((p1 &&& (255 : Int32)).toUInt32.toUInt16.toUInt32.toInt32)), .val (.int ((((p1.toUInt32 >>> ((8 : Int32) &&& 31).toUInt32).toInt32) &&& (255 : Int32)).toUInt32.toUInt16.toUInt32.toInt32)), .val (.ref b83)] [(.int (0 : Int32)), (.ref b83)])) _
        refine XS.iloadN X83.here hx rfl (hb hby own_d1_45) rfl ?_
        show Steps p.tables e below (T83.setTop (mkF m 46 #[.val (.int p1), .val (.int p2), .val (.int ((p1 &&& (255 : Int32)).toUInt32.toUInt16.toUInt32.toInt32)), .val (.int ((((p1.toUInt32 >>> ((8 : Int32) &&& 31).toUInt32).toInt32) &&& (255 : Int32)).toUInt32.toUInt16.toUInt32.toInt32)), .val (.ref b83)] [(.int ((p1 &&& (255 : Int32)).toUInt32.toUInt16.toUInt32.toInt32)), (.int (0 : Int32)), (.ref b83)])) _
        refine st85 _ ?_
        show Steps p.tables e below (T85.setTop (mkF m 47 #[.val (.int p1), .val (.int p2), .val (.int ((p1 &&& (255 : Int32)).toUInt32.toUInt16.toUInt32.toInt32)), .val (.int ((((p1.toUInt32 >>> ((8 : Int32) &&& 31).toUInt32).toInt32) &&& (255 : Int32)).toUInt32.toUInt16.toUInt32.toInt32)), .val (.ref b83)] [])) _
        refine st86 _ ?_
        show Steps p.tables e below (T86.setTop (mkF m 50 #[.val (.int p1), .val (.int p2), .val (.int ((p1 &&& (255 : Int32)).toUInt32.toUInt16.toUInt32.toInt32)), .val (.int ((((p1.toUInt32 >>> ((8 : Int32) &&& 31).toUInt32).toInt32) &&& (255 : Int32)).toUInt32.toUInt16.toUInt32.toInt32)), .val (.ref b83)] [(.ref b86)])) _
        refine XS.dup X86.here hx rfl (hb hby own_d1_50) rfl rfl ?_
        show Steps p.tables e below (T86.setTop (mkF m 51 #[.val (.int p1), .val (.int p2), .val (.int ((p1 &&& (255 : Int32)).toUInt32.toUInt16.toUInt32.toInt32)), .val (.int ((((p1.toUInt32 >>> ((8 : Int32) &&& 31).toUInt32).toInt32) &&& (255 : Int32)).toUInt32.toUInt16.toUInt32.toInt32)), .val (.ref b83)] [(.ref b86), (.ref b86)])) _
        refine XS.aload X86.here hx rfl (hb hby own_d1_51) rfl rfl ?_
        show Steps p.tables e below (T86.setTop (mkF m 53 #[.val (.int p1), .val (.int p2), .val (.int ((p1 &&& (255 : Int32)).toUInt32.toUInt16.toUInt32.toInt32)), .val (.int ((((p1.toUInt32 >>> ((8 : Int32) &&& 31).toUInt32).toInt32) &&& (255 : Int32)).toUInt32.toUInt16.toUInt32.toInt32)), .val (.ref b83)] [(.ref b83), (.ref b86), (.ref b86)])) _
        refine st89.trans ?_
        show Steps p.tables e below (T89.setTop (mkF m 56 #[.val (.int p1), .val (.int p2), .val (.int ((p1 &&& (255 : Int32)).toUInt32.toUInt16.toUInt32.toInt32)), .val (.int ((((p1.toUInt32 >>> ((8 : Int32) &&& 31).toUInt32).toInt32) &&& (255 : Int32)).toUInt32.toUInt16.toUInt32.toInt32)), .val (.ref b83)] [(.ref b86)])) _
        jvm_step X89.here [X89.here.top, hx, (hb hby own_d1_56), X89.method', Bd.returns, Value.isRef, FieldType.isReference]
        first | (intro acts; rw [hr _ acts rfl rfl rfl]) | rw [hr _ _ rfl rfl rfl]
        exact Steps.refl _
      · show QM Z p1 p2 cw h0 n0 _ T89.heap _
        exact ⟨b86, rfl, N89, K89, sz_b86, (by rw [own_mk1 hc18 hc34]; exact ⟨i89_6, i89_7, b_89, kb_89, i89_8, i89_9⟩)⟩
    · obtain ⟨T90, h90, k90, X90, e90, E90, A90, st90⟩ := newP X0 hx hZ (hw _ (List.mem_of_getElem? (i := 10) rfl)) e0 (g := (mkF m 58 #[.val (.int p1), .val (.int p2), .val (.int ((p1 &&& (255 : Int32)).toUInt32.toUInt16.toUInt32.toInt32)), .val (.int ((((p1.toUInt32 >>> ((8 : Int32) &&& 31).toUInt32).toInt32) &&& (255 : Int32)).toUInt32.toUInt16.toUInt32.toInt32)), .unset] [(.int (2 : Int32))])) rfl (hb hby own_d1_58) rfl (by decide) (cap := 2) (by decide) (by decide) (by decide) (by decide)
      obtain ⟨b90, g90⟩ : ∃ z, z = h0.size := ⟨_, rfl⟩
      rw [← g90] at A90 st90
      have gg_b90 : n0 ≤ b90 := Nat.le_trans (Nat.le_trans Z0 K0.1) (Nat.le_of_eq g90.symm)
      have sz_b90 : h0.size ≤ b90 := Nat.le_trans K0.1 (Nat.le_of_eq g90.symm)
      have K90 := K0.ext E90
      have sf90_b90 := Safe.ext E90 CH0.1 (Safe.new (Nat.le_of_eq g90.symm) : Safe Z own_EL _ _ b90)
      have CH90 := CH0.trans (CHr.ext E90 CH0.1)
      have hk := Nat.le_trans hk E90.1
      have V90 : Arv Z h90 b90 k90 .char (2 : Int32) [(.int (0 : Int32)), (.int (0 : Int32))] (.int (0 : Int32)) := (Arv.new A90 (by decide)).pad (pad_rep [] (.int (0 : Int32)) 2)
      obtain ⟨cl91, Ar91, q91, S91, M91, H91, G91⟩ := id V90
      have hin91 : ¬ ((0 : Int32) < 0 ∨ cl91.slots.size ≤ ((0 : Int32)).toNatClampNeg) := inb_of S91 ⟨by decide, by decide⟩
      obtain ⟨T92, h92, X92, e92, W92, st92⟩ := stC X90 hx hZ e90 Ar91 (j := (0 : Int32)) hin91 (g := (mkF m 66 #[.val (.int p1), .val (.int p2), .val (.int ((p1 &&& (255 : Int32)).toUInt32.toUInt16.toUInt32.toInt32)), .val (.int ((((p1.toUInt32 >>> ((8 : Int32) &&& 31).toUInt32).toInt32) &&& (255 : Int32)).toUInt32.toUInt16.toUInt32.toInt32)), .val (.ref b90)] [(.int ((p1 &&& (255 : Int32)).toUInt32.toUInt16.toUInt32.toInt32)), (.int (0 : Int32)), (.ref b90)])) rfl rfl (hb hby own_d1_66)
      have V92 : Arv Z h92 b90 k90 .char (2 : Int32) [(.int (nar .char ((p1 &&& (255 : Int32)).toUInt32.toUInt16.toUInt32.toInt32))), (.int (0 : Int32))] (.int (0 : Int32)) := Arv.set Ar91 q91 S91 M91 H91 G91 (fits_nar_char _) W92 0 rfl (Nat.le_of_ble_eq_true rfl)
      have K92 := K90.wr W92 (Or.inr sz_b90)
      have N92 := Fr.snoc X92 N0 gg_b90
      have sf92_b90 := Safe.wr W92 sf90_b90 CH90.1 sf90_b90
      have CH92 := CH90.trans (CHr.wr W92 sf90_b90 CH90.1)
      have hk := Nat.le_trans hk (Keep.of_wr W92).1
      obtain ⟨cl93, Ar93, q93, S93, M93, H93, G93⟩ := id V92
      have hin93 : ¬ ((1 : Int32) < 0 ∨ cl93.slots.size ≤ ((1 : Int32)).toNatClampNeg) := inb_of S93 ⟨by decide, by decide⟩
      obtain ⟨T94, h94, X94, e94, W94, st94⟩ := stC X92 hx hZ e92 Ar93 (j := (1 : Int32)) hin93 (g := (mkF m 71 #[.val (.int p1), .val (.int p2), .val (.int ((p1 &&& (255 : Int32)).toUInt32.toUInt16.toUInt32.toInt32)), .val (.int ((((p1.toUInt32 >>> ((8 : Int32) &&& 31).toUInt32).toInt32) &&& (255 : Int32)).toUInt32.toUInt16.toUInt32.toInt32)), .val (.ref b90)] [(.int ((((p1.toUInt32 >>> ((8 : Int32) &&& 31).toUInt32).toInt32) &&& (255 : Int32)).toUInt32.toUInt16.toUInt32.toInt32)), (.int (1 : Int32)), (.ref b90)])) rfl rfl (hb hby own_d1_71)
      have V94 : Arv Z h94 b90 k90 .char (2 : Int32) [(.int (nar .char ((p1 &&& (255 : Int32)).toUInt32.toUInt16.toUInt32.toInt32))), (.int (nar .char ((((p1.toUInt32 >>> ((8 : Int32) &&& 31).toUInt32).toInt32) &&& (255 : Int32)).toUInt32.toUInt16.toUInt32.toInt32)))] (.int (0 : Int32)) := Arv.set Ar93 q93 S93 M93 H93 G93 (fits_nar_char _) W94 1 rfl (Nat.le_of_ble_eq_true rfl)
      have K94 := K92.wr W94 (Or.inr sz_b90)
      have N94 := Fr.snoc X94 N92 gg_b90
      have sf94_b90 := Safe.wr W94 sf92_b90 CH92.1 sf92_b90
      have CH94 := CH92.trans (CHr.wr W94 sf92_b90 CH92.1)
      have hk := Nat.le_trans hk (Keep.of_wr W94).1
      obtain ⟨T95, h95, X95, e95, E95, A95, D95, -, st95⟩ := newO X94 hx hZ hown (hw _ (List.mem_of_getElem? (i := 7) rfl)) (hw _ (List.mem_of_getElem? (i := 8) rfl)) (hw _ (List.mem_of_getElem? (i := 9) rfl)) e94 (g := (mkF m 72 #[.val (.int p1), .val (.int p2), .val (.int ((p1 &&& (255 : Int32)).toUInt32.toUInt16.toUInt32.toInt32)), .val (.int ((((p1.toUInt32 >>> ((8 : Int32) &&& 31).toUInt32).toInt32) &&& (255 : Int32)).toUInt32.toUInt16.toUInt32.toInt32)), .val (.ref b90)] [])) rfl (hb hby own_d1_72) (by decide) (by decide)
      obtain ⟨b95, g95⟩ : ∃ z, z = h94.size := ⟨_, rfl⟩
      rw [← g95] at A95 D95 st95
      have ne_b90_b95 : b90 ≠ b95 := Nat.ne_of_lt (Nat.lt_of_lt_of_le V94.lt (Nat.le_of_eq g95.symm))
      have gg_b95 : n0 ≤ b95 := Nat.le_trans (Nat.le_trans Z0 K94.1) (Nat.le_of_eq g95.symm)
      have sz_b95 : h0.size ≤ b95 := Nat.le_trans K94.1 (Nat.le_of_eq g95.symm)
      have K95 := K94.ext E95
      have sf95_b95 := Safe.ext E95 CH94.1 (Safe.new (Nat.le_of_eq g95.symm) : Safe Z own_EL _ _ b95)
      have sf95_b90 := Safe.ext E95 CH94.1 sf94_b90
      have CH95 := CH94.trans (CHr.ext E95 CH94.1)
      have hk := Nat.le_trans hk E95.1
      have F95_value : Fld Z h95 b95 "java/lang/String" "value" "[B" .null := D95 (Or.inr (hw _ (List.mem_of_getElem? (i := 23) rfl))) (ty := (.array .byte)) (by decide)
      have F95_coder : Fld Z h95 b95 "java/lang/String" "coder" "B" (.int (0 : Int32)) := D95 (Or.inr (hw _ (List.mem_of_getElem? (i := 24) rfl))) (ty := .byte) (by decide)
      have Q96 := ((((S_COMPACT_STRINGS.ext E90).wr W92).wr W94).ext E95)
      have Q97 := (V94.ext E95)
      obtain ⟨_, _, ⟨T98, L98, k98, n98⟩, -, X98, ⟨Lc98, hQ98, l98, y98, z98⟩, st98⟩ := X95.specialBack hx (y := (⟨"java/lang/String", "<init>", "([C)V"⟩ : MethodName)) rfl hown (mvT hZ (hw _ (List.mem_of_getElem? (i := 11) rfl))) (mvT hZ (hw _ (List.mem_of_getElem? (i := 12) rfl))) (mvT hZ (hw _ (List.mem_of_getElem? (i := 13) rfl))) (by decide) (backOf (W := 1) (rmI1_2 l Z a0 hw [] b95 b90 cw k90 (nar .char ((p1 &&& (255 : Int32)).toUInt32.toUInt16.toUInt32.toInt32)) (nar .char ((((p1.toUInt32 >>> ((8 : Int32) &&& 31).toUInt32).toInt32) &&& (255 : Int32)).toUInt32.toUInt16.toUInt32.toInt32)) h95 n0 (Nat.le_trans Z0 K95.1) A95 F95_value F95_coder gg_b95 Q96 hw0 Q97 (own_chle _) (own_chle _)) hZ (hw _ (List.mem_of_getElem? (i := 13) rfl)) (hw _ (List.mem_of_getElem? (i := 9) rfl)) (by decide) (by decide)) (g := (mkF m 78 #[.val (.int p1), .val (.int p2), .val (.int ((p1 &&& (255 : Int32)).toUInt32.toUInt16.toUInt32.toInt32)), .val (.int ((((p1.toUInt32 >>> ((8 : Int32) &&& 31).toUInt32).toInt32) &&& (255 : Int32)).toUInt32.toUInt16.toUInt32.toInt32)), .val (.ref b90)] [(.ref b90), (.ref b95), (.ref b95)])) rfl (by rw [hml]; rfl) (Steps.refl _) (a := b95) (argsL := [(.ref b90)]) (rest := [(.ref b95)]) (lenOf own_pd4 rfl) rfl (by show 2 * 0 + _ ≤ _; exact Nat.le_of_eq rfl) (hb hby own_d1_78) (fun _ _ => ⟨rfl, e95, (by decide : 2 + 1 ≤ _), (by decide : 6 + 2 ≤ _)⟩)
      dsimp only [Pt.U, Pt.locs, Pt.cells, Pt.slots] at X98 l98 y98 z98 st98 hQ98
      subst l98 y98 z98
      obtain ⟨b_98, kb_98, rfl, N98q, i98_4, i98_5, i98_6, i98_7, i98_8, i98_9⟩ := hQ98
      have N98 := Fr.app N94 N98q
      have ne_b90_b_98 : b90 ≠ b_98 := Nat.ne_of_lt (Nat.lt_of_lt_of_le Q97.lt i98_5)
      have ne_b95_b_98 : b95 ≠ b_98 := Nat.ne_of_lt (Nat.lt_of_lt_of_le A95.lt i98_5)
      have gg_b_98 : n0 ≤ b_98 := Nat.le_trans (Nat.le_trans Z0 K95.1) i98_5
      have sz_b_98 : h0.size ≤ b_98 := Nat.le_trans K95.1 i98_5
      have sf98_b90 := Safe.keep i98_4 (sfS sf95_b95 sf0) CH95.1 sf95_b90
      have sf98_b95 := Safe.keep i98_4 (sfS sf95_b95 sf0) CH95.1 sf95_b95
      have CH98 := CH95.trans (CHr.keep i98_4 (sfS sf95_b95 sf0) CH95.1)
      have hk := Nat.le_trans hk i98_4.1
      have K98 := K95.trans i98_4 (allS (Or.inr sz_b95) all0)
      obtain ⟨fs, hr, hrun, hended, hW, hsame⟩ := X98.leave (v := some (.ref b95)) (fun h => by rw [Bd.returns] at h; cases h)
      refine ⟨_, _, pre82 _ ?_, hrun, hended, _, _, rfl, ?_, (by show CHr Z own_EL s.vm s.heap T98.vm T98.heap; rw [hh]; exact CH98.trans (CHv.at X98 hZ hEL CH98.1)), own_endW hS hk hW (hsame.mono (by decide) (by decide))⟩
      · show Steps p.tables e below (s₁.setTop (mkF m 34 #[.val (.int p1), .val (.int p2), .val (.int ((p1 &&& (255 : Int32)).toUInt32.toUInt16.toUInt32.toInt32)), .val (.int ((((p1.toUInt32 >>> ((8 : Int32) &&& 31).toUInt32).toInt32) &&& (255 : Int32)).toUInt32.toUInt16.toUInt32.toInt32)), .unset] [(.int (1 : Int32)), (.int p2)])) _
        refine XS.icmpYes X0.here hx rfl (pc0 := 34) (pc' := 57) rfl (hb hby own_d1_34) rfl (feq hc34).2 (by decide) (by decide) ?_
        show Steps p.tables e below (s₁.setTop (mkF m 57 #[.val (.int p1), .val (.int p2), .val (.int ((p1 &&& (255 : Int32)).toUInt32.toUInt16.toUInt32.toInt32)), .val (.int ((((p1.toUInt32 >>> ((8 : Int32) &&& 31).toUInt32).toInt32) &&& (255 : Int32)).toUInt32.toUInt16.toUInt32.toInt32)), .unset] [])) _
        refine XS.iconst X0.here hx rfl (hb hby own_d1_57) ?_
        show Steps p.tables e below (s₁.setTop (mkF m 58 #[.val (.int p1), .val (.int p2), .val (.int ((p1 &&& (255 : Int32)).toUInt32.toUInt16.toUInt32.toInt32)), .val (.int ((((p1.toUInt32 >>> ((8 : Int32) &&& 31).toUInt32).toInt32) &&& (255 : Int32)).toUInt32.toUInt16.toUInt32.toInt32)), .unset] [(.int (2 : Int32))])) _
        refine st90 _ ?_
        show Steps p.tables e below (T90.setTop (mkF m 60 #[.val (.int p1), .val (.int p2), .val (.int ((p1 &&& (255 : Int32)).toUInt32.toUInt16.toUInt32.toInt32)), .val (.int ((((p1.toUInt32 >>> ((8 : Int32) &&& 31).toUInt32).toInt32) &&& (255 : Int32)).toUInt32.toUInt16.toUInt32.toInt32)), .unset] [(.ref b90)])) _
        refine XS.astore X90.here hx rfl (hb hby own_d1_60) rfl rfl (l' := #[.val (.int p1), .val (.int p2), .val (.int ((p1 &&& (255 : Int32)).toUInt32.toUInt16.toUInt32.toInt32)), .val (.int ((((p1.toUInt32 >>> ((8 : Int32) &&& 31).toUInt32).toInt32) &&& (255 : Int32)).toUInt32.toUInt16.toUInt32.toInt32)), .val (.ref b90)]) rfl ?_
        show Steps p.tables e below (T90.setTop (mkF m 62 #[.val (.int p1), .val (.int p2), .val (.int ((p1 &&& (255 : Int32)).toUInt32.toUInt16.toUInt32.toInt32)), .val (.int ((((p1.toUInt32 >>> ((8 : Int32) &&& 31).toUInt32).toInt32) &&& (255 : Int32)).toUInt32.toUInt16.toUInt32.toInt32)), .val (.ref b90)] [])) _
        refine XS.aload X90.here hx rfl (hb hby own_d1_62) rfl rfl ?_
        show Steps p.tables e below (T90.setTop (mkF m 64 #[.val (.int p1), .val (.int p2), .val (.int ((p1 &&& (255 : Int32)).toUInt32.toUInt16.toUInt32.toInt32)), .val (.int ((((p1.toUInt32 >>> ((8 : Int32) &&& 31).toUInt32).toInt32) &&& (255 : Int32)).toUInt32.toUInt16.toUInt32.toInt32)), .val (.ref b90)] [(.ref b90)])) _
        refine XS.iconst X90.here hx rfl (hb hby own_d1_64) ?_
        show Steps p.tables e below (T90.setTop (mkF m 65 #[.val (.int p1), .val (.int p2), .val (.int ((p1 &&& (255 : Int32)).toUInt32.toUInt16.toUInt32.toInt32)), .val (.int ((((p1.toUInt32 >>> ((8 : Int32) &&& 31).toUInt32).toInt32) &&& (255 : Int32)).toUInt32.toUInt16.toUInt32.toInt32)), .val (.ref b90)] [(.int (0 : Int32)), (.ref b90)])) _
        refine XS.iloadN X90.here hx rfl (hb hby own_d1_65) rfl ?_
        show Steps p.tables e below (T90.setTop (mkF m 66 #[.val (.int p1), .val (.int p2), .val (.int ((p1 &&& (255 : Int32)).toUInt32.toUInt16.toUInt32.toInt32)), .val (.int ((((p1.toUInt32 >>> ((8 : Int32) &&& 31).toUInt32).toInt32) &&& (255 : Int32)).toUInt32.toUInt16.toUInt32.toInt32)), .val (.ref b90)] [(.int ((p1 &&& (255 : Int32)).toUInt32.toUInt16.toUInt32.toInt32)), (.int (0 : Int32)), (.ref b90)])) _
        refine st92 _ ?_
        show Steps p.tables e below (T92.setTop (mkF m 67 #[.val (.int p1), .val (.int p2), .val (.int ((p1 &&& (255 : Int32)).toUInt32.toUInt16.toUInt32.toInt32)), .val (.int ((((p1.toUInt32 >>> ((8 : Int32) &&& 31).toUInt32).toInt32) &&& (255 : Int32)).toUInt32.toUInt16.toUInt32.toInt32)), .val (.ref b90)] [])) _
        refine XS.aload X92.here hx rfl (hb hby own_d1_67) rfl rfl ?_
        show Steps p.tables e below (T92.setTop (mkF m 69 #[.val (.int p1), .val (.int p2), .val (.int ((p1 &&& (255 : Int32)).toUInt32.toUInt16.toUInt32.toInt32)), .val (.int ((((p1.toUInt32 >>> ((8 : Int32) &&& 31).toUInt32).toInt32) &&& (255 : Int32)).toUInt32.toUInt16.toUInt32.toInt32)), .val (.ref b90)] [(.ref b90)])) _
        refine XS.iconst X92.here hx rfl (hb hby own_d1_69) ?_
        show Steps p.tables e below (T92.setTop (mkF m 70 #[.val (.int p1), .val (.int p2), .val (.int ((p1 &&& (255 : Int32)).toUInt32.toUInt16.toUInt32.toInt32)), .val (.int ((((p1.toUInt32 >>> ((8 : Int32) &&& 31).toUInt32).toInt32) &&& (255 : Int32)).toUInt32.toUInt16.toUInt32.toInt32)), .val (.ref b90)] [(.int (1 : Int32)), (.ref b90)])) _
        refine XS.iloadN X92.here hx rfl (hb hby own_d1_70) rfl ?_
        show Steps p.tables e below (T92.setTop (mkF m 71 #[.val (.int p1), .val (.int p2), .val (.int ((p1 &&& (255 : Int32)).toUInt32.toUInt16.toUInt32.toInt32)), .val (.int ((((p1.toUInt32 >>> ((8 : Int32) &&& 31).toUInt32).toInt32) &&& (255 : Int32)).toUInt32.toUInt16.toUInt32.toInt32)), .val (.ref b90)] [(.int ((((p1.toUInt32 >>> ((8 : Int32) &&& 31).toUInt32).toInt32) &&& (255 : Int32)).toUInt32.toUInt16.toUInt32.toInt32)), (.int (1 : Int32)), (.ref b90)])) _
        refine st94 _ ?_
        show Steps p.tables e below (T94.setTop (mkF m 72 #[.val (.int p1), .val (.int p2), .val (.int ((p1 &&& (255 : Int32)).toUInt32.toUInt16.toUInt32.toInt32)), .val (.int ((((p1.toUInt32 >>> ((8 : Int32) &&& 31).toUInt32).toInt32) &&& (255 : Int32)).toUInt32.toUInt16.toUInt32.toInt32)), .val (.ref b90)] [])) _
        refine st95 _ ?_
        show Steps p.tables e below (T95.setTop (mkF m 75 #[.val (.int p1), .val (.int p2), .val (.int ((p1 &&& (255 : Int32)).toUInt32.toUInt16.toUInt32.toInt32)), .val (.int ((((p1.toUInt32 >>> ((8 : Int32) &&& 31).toUInt32).toInt32) &&& (255 : Int32)).toUInt32.toUInt16.toUInt32.toInt32)), .val (.ref b90)] [(.ref b95)])) _
        refine XS.dup X95.here hx rfl (hb hby own_d1_75) rfl rfl ?_
        show Steps p.tables e below (T95.setTop (mkF m 76 #[.val (.int p1), .val (.int p2), .val (.int ((p1 &&& (255 : Int32)).toUInt32.toUInt16.toUInt32.toInt32)), .val (.int ((((p1.toUInt32 >>> ((8 : Int32) &&& 31).toUInt32).toInt32) &&& (255 : Int32)).toUInt32.toUInt16.toUInt32.toInt32)), .val (.ref b90)] [(.ref b95), (.ref b95)])) _
        refine XS.aload X95.here hx rfl (hb hby own_d1_76) rfl rfl ?_
        show Steps p.tables e below (T95.setTop (mkF m 78 #[.val (.int p1), .val (.int p2), .val (.int ((p1 &&& (255 : Int32)).toUInt32.toUInt16.toUInt32.toInt32)), .val (.int ((((p1.toUInt32 >>> ((8 : Int32) &&& 31).toUInt32).toInt32) &&& (255 : Int32)).toUInt32.toUInt16.toUInt32.toInt32)), .val (.ref b90)] [(.ref b90), (.ref b95), (.ref b95)])) _
        refine st98.trans ?_
        show Steps p.tables e below (T98.setTop (mkF m 81 #[.val (.int p1), .val (.int p2), .val (.int ((p1 &&& (255 : Int32)).toUInt32.toUInt16.toUInt32.toInt32)), .val (.int ((((p1.toUInt32 >>> ((8 : Int32) &&& 31).toUInt32).toInt32) &&& (255 : Int32)).toUInt32.toUInt16.toUInt32.toInt32)), .val (.ref b90)] [(.ref b95)])) _
        jvm_step X98.here [X98.here.top, hx, (hb hby own_d1_81), X98.method', Bd.returns, Value.isRef, FieldType.isReference]
        first | (intro acts; rw [hr _ acts rfl rfl rfl]) | rw [hr _ _ rfl rfl rfl]
        exact Steps.refl _
      · show QM Z p1 p2 cw h0 n0 _ T98.heap _
        exact ⟨b95, rfl, N98, K98, sz_b95, (by rw [own_mk2 hc18 hc34]; exact ⟨i98_6, i98_7, b_98, kb_98, i98_8, i98_9⟩)⟩
def own_eqL (A B : List Int32) : Int32 := if A = B then (1 : Int32) else (0 : Int32)
theorem own_eqL1 {A B : List Int32} (h : ¬ own_eqL A B = (0 : Int32)) : own_eqL A B = (1 : Int32) := by
  unfold own_eqL at *
  split
  · rfl
  · rename_i q; rw [if_neg q] at h; exact absurd rfl h
theorem own_eqLc (A B : List Int32) : own_eqL A B = own_eqL B A := by
  unfold own_eqL
  by_cases h : A = B
  · rw [if_pos h, if_pos h.symm]
  · rw [if_neg h, if_neg (fun q => h q.symm)]
theorem own_d9_0 : decode jdk_43_method_13_code 0 = .ok (.aload_n 0, 1) := by decide +kernel
theorem own_d9_1 : decode jdk_43_method_13_code 1 = .ok (.arraylength, 1) := by decide +kernel
theorem own_d9_2 : decode jdk_43_method_13_code 2 = .ok (.aload_n 1, 1) := by decide +kernel
theorem own_d9_3 : decode jdk_43_method_13_code 3 = .ok (.arraylength, 1) := by decide +kernel
theorem own_d9_4 : decode jdk_43_method_13_code 4 = .ok (.if_icmp .ne 30, 3) := by decide +kernel
theorem own_d9_7 : decode jdk_43_method_13_code 7 = .ok (.iconst 0, 1) := by decide +kernel
theorem own_d9_8 : decode jdk_43_method_13_code 8 = .ok (.istore_n 2, 1) := by decide +kernel
theorem own_d9_9 : decode jdk_43_method_13_code 9 = .ok (.iload_n 2, 1) := by decide +kernel
theorem own_d9_10 : decode jdk_43_method_13_code 10 = .ok (.aload_n 0, 1) := by decide +kernel
theorem own_d9_11 : decode jdk_43_method_13_code 11 = .ok (.arraylength, 1) := by decide +kernel
theorem own_d9_12 : decode jdk_43_method_13_code 12 = .ok (.if_icmp .ge 20, 3) := by decide +kernel
theorem own_d9_32 : decode jdk_43_method_13_code 32 = .ok (.iconst 1, 1) := by decide +kernel
theorem own_d9_33 : decode jdk_43_method_13_code 33 = .ok (.ireturn, 1) := by decide +kernel
theorem own_pn3 : plainName "java/lang/StringLatin1" = true := by first | (simp [plainName, overriddenIn]; done) | decide +kernel
theorem own_ef_rmLE_00 (m : MethodId) (a1 : Addr) (a2 : Addr) : entryFrame m #[(.ref a1), (.ref a2)] 3 = mkF m 0 #[.val (.ref a1), .val (.ref a2), .unset] [] := by first | (simp [entryFrame, mkF, argsToLocals, Value.category]; done) | rfl
def QLE_00 (Z : State) (a1 : Addr) (a2 : Addr) (k1 : ClassId) (k2 : ClassId) (h0 : Heap) (n0 : Nat) (v : Option Value) (h : Heap) (L : List Loc) : Prop := v = some (.int (own_eqL [] [])) ∧ Fr n0 L ∧ h = h0
set_option maxRecDepth 65536 in
set_option maxHeartbeats 40000000 in
theorem rmLE_00 (l : Launch) (Z : State) (a0 : Array Value) (hw : ∀ d ∈ tables_1, d.before a0 Z = true) (ws : List Jvm.Cond) (a1 : Addr) (a2 : Addr) (k1 : ClassId) (k2 : ClassId) (h0 : Heap) (n0 : Nat) (Z0 : n0 ≤ h0.size) (V_a1 : Arv Z h0 a1 k1 .byte (0 : Int32) [] (.int (0 : Int32))) (V_a2 : Arv Z h0 a2 k2 .byte (0 : Int32) [] (.int (0 : Int32))) :
    MetFree l (⟨"java/lang/StringLatin1", "equals", "([B[B)Z"⟩ : MethodName) (head1 (Jvm.Cond.code (⟨"java/lang/StringLatin1", "equals", "([B[B)Z"⟩ : MethodName) jdk_43_method_13_code 3 (some .boolean) :: ws) ({ frames := 0, cells := 0, slots := 0, locals := 0 } : Room)) (fun a U => a = #[(.ref a1), (.ref a2)] ∧ Z.Warmed39 U.vm ∧ U.heap = h0) (fun _ _ _ _ _ => True) (fun _ U o U' => ∃ v L, o = .returned v ∧ QLE_00 Z a1 a2 k1 k2 h0 n0 v U'.heap L ∧ FrameEnd U o U' L ({ frames := 0, cells := 0, slots := 0, locals := 0 } : Room).cells ({ frames := 0, cells := 0, slots := 0, locals := 0 } : Room).slots) := by
  refine MetFree.of_bodySF (plainFor_of_name own_pn3) hisR ?_
  intro p e s m args below meth c s₁ Bd hml0 hP hK
  obtain ⟨rfl, hZ, hh⟩ := hP
  have hx := Bd.exec
  have hby := Bd.bytes
  have hml : c.maxLocals = 3 := hml0
  have hown : s.vm.findClass "java/lang/StringLatin1" = some m.cls := findClass_of_methodNamed Bd.named
  have hnm := (name_of_methodNamed Bd.named Bd.method).1
  have X0 : Stand p l e ({ frames := 0, cells := 0, slots := 0, locals := 0 } : Room) s m #[(.ref a1), (.ref a2)] below meth c s₁ [] 0 0 := Stand.of_body Bd
  have e0 : s₁.heap = h0 := by rw [← hh, Bd.state]; rfl
  have N0 := Fr.nil n0
  have K0 : Keep h0 h0 [] := Keep.refl h0 _
  have pre0 : ∀ t, Steps p.tables e below (s₁.setTop (mkF m 0 #[.val (.ref a1), .val (.ref a2), .unset] [])) t → Steps p.tables e below (s₁.setTop (entryFrame m #[(.ref a1), (.ref a2)] 3)) t := fun t k => castTop (own_ef_rmLE_00 m a1 a2) k
  obtain ⟨cl99, Ar99, q99, S99, M99, H99, G99⟩ := id V_a1
  obtain ⟨cl100, Ar100, q100, S100, M100, H100, G100⟩ := id V_a2
  obtain ⟨cl101, Ar101, q101, S101, M101, H101, G101⟩ := id V_a1
  obtain ⟨fs, hr, hrun, hended, hW, hsame⟩ := X0.leave (v := some (.int (1 : Int32))) (fun h => by rw [Bd.returns] at h; cases h)
  refine ⟨_, _, pre0 _ ?_, hrun, hended, _, _, rfl, ?_, ⟨_, rfl⟩, hW, hsame.mono (by decide) (by decide)⟩
  · show Steps p.tables e below (s₁.setTop (mkF m 0 #[.val (.ref a1), .val (.ref a2), .unset] [])) _
    refine XS.aloadN X0.here hx rfl (hb hby own_d9_0) rfl rfl ?_
    show Steps p.tables e below (s₁.setTop (mkF m 1 #[.val (.ref a1), .val (.ref a2), .unset] [(.ref a1)])) _
    refine X0.arraylength hx (by rw [e0]; exact Ar99.1) (State.isArrayOf_alike hZ.alike Ar99.2.1) (g := (mkF m 1 #[.val (.ref a1), .val (.ref a2), .unset] [(.ref a1)])) rfl rfl (hb hby own_d9_1) _ ?_
    rw [len_of S99 M99]
    show Steps p.tables e below (s₁.setTop (mkF m 2 #[.val (.ref a1), .val (.ref a2), .unset] [(.int (0 : Int32))])) _
    refine XS.aloadN X0.here hx rfl (hb hby own_d9_2) rfl rfl ?_
    show Steps p.tables e below (s₁.setTop (mkF m 3 #[.val (.ref a1), .val (.ref a2), .unset] [(.ref a2), (.int (0 : Int32))])) _
    refine X0.arraylength hx (by rw [e0]; exact Ar100.1) (State.isArrayOf_alike hZ.alike Ar100.2.1) (g := (mkF m 3 #[.val (.ref a1), .val (.ref a2), .unset] [(.ref a2), (.int (0 : Int32))])) rfl rfl (hb hby own_d9_3) _ ?_
    rw [len_of S100 M100]
    show Steps p.tables e below (s₁.setTop (mkF m 4 #[.val (.ref a1), .val (.ref a2), .unset] [(.int (0 : Int32)), (.int (0 : Int32))])) _
    refine XS.icmpNo X0.here hx rfl (hb hby own_d9_4) rfl (teq (by decide : ((0 : Int32) = (0 : Int32)))).2 ?_
    show Steps p.tables e below (s₁.setTop (mkF m 7 #[.val (.ref a1), .val (.ref a2), .unset] [])) _
    refine XS.iconst X0.here hx rfl (hb hby own_d9_7) ?_
    show Steps p.tables e below (s₁.setTop (mkF m 8 #[.val (.ref a1), .val (.ref a2), .unset] [(.int (0 : Int32))])) _
    refine XS.istoreN X0.here hx rfl (hb hby own_d9_8) rfl (l' := #[.val (.ref a1), .val (.ref a2), .val (.int (0 : Int32))]) rfl ?_
    show Steps p.tables e below (s₁.setTop (mkF m 9 #[.val (.ref a1), .val (.ref a2), .val (.int (0 : Int32))] [])) _
    refine XS.iloadN X0.here hx rfl (hb hby own_d9_9) rfl ?_
    show Steps p.tables e below (s₁.setTop (mkF m 10 #[.val (.ref a1), .val (.ref a2), .val (.int (0 : Int32))] [(.int (0 : Int32))])) _
    refine XS.aloadN X0.here hx rfl (hb hby own_d9_10) rfl rfl ?_
    show Steps p.tables e below (s₁.setTop (mkF m 11 #[.val (.ref a1), .val (.ref a2), .val (.int (0 : Int32))] [(.ref a1), (.int (0 : Int32))])) _
    refine X0.arraylength hx (by rw [e0]; exact Ar101.1) (State.isArrayOf_alike hZ.alike Ar101.2.1) (g := (mkF m 11 #[.val (.ref a1), .val (.ref a2), .val (.int (0 : Int32))] [(.ref a1), (.int (0 : Int32))])) rfl rfl (hb hby own_d9_11) _ ?_
    rw [len_of S101 M101]
    show Steps p.tables e below (s₁.setTop (mkF m 12 #[.val (.ref a1), .val (.ref a2), .val (.int (0 : Int32))] [(.int (0 : Int32)), (.int (0 : Int32))])) _
    refine XS.icmpYes X0.here hx rfl (pc0 := 12) (pc' := 32) rfl (hb hby own_d9_12) rfl (flt (by decide : ¬ ((0 : Int32) < (0 : Int32)))).2.1 (by decide) (by decide) ?_
    show Steps p.tables e below (s₁.setTop (mkF m 32 #[.val (.ref a1), .val (.ref a2), .val (.int (0 : Int32))] [])) _
    refine XS.iconst X0.here hx rfl (hb hby own_d9_32) ?_
    show Steps p.tables e below (s₁.setTop (mkF m 33 #[.val (.ref a1), .val (.ref a2), .val (.int (0 : Int32))] [(.int (1 : Int32))])) _
    exact retN X0 hx (t := .boolean) Bd.returns (by simp) (hb hby own_d9_33) hr
  · show QLE_00 Z a1 a2 k1 k2 h0 n0 _ s₁.heap _
    rw [e0]
    exact ⟨(congrArg (fun z => some (Value.int z)) (by simp [own_eqL] : (1 : Int32) = (own_eqL [] []))), N0, rfl⟩
theorem own_d8_0 : decode jdk_42_method_66_code 0 = .ok (.aload_n 0, 1) := by decide +kernel
theorem own_d8_1 : decode jdk_42_method_66_code 1 = .ok (.aload_n 1, 1) := by decide +kernel
theorem own_d8_2 : decode jdk_42_method_66_code 2 = .ok (.if_acmp .ne 5, 3) := by decide +kernel
theorem own_d8_7 : decode jdk_42_method_66_code 7 = .ok (.aload_n 1, 1) := by decide +kernel
theorem own_d8_8 : decode jdk_42_method_66_code 8 = .ok (.instanceof 10, 3) := by decide +kernel
theorem own_d8_11 : decode jdk_42_method_66_code 11 = .ok (.ifCond .eq 43, 3) := by decide +kernel
theorem own_d8_14 : decode jdk_42_method_66_code 14 = .ok (.aload_n 1, 1) := by decide +kernel
theorem own_d8_15 : decode jdk_42_method_66_code 15 = .ok (.checkcast 10, 3) := by decide +kernel
theorem own_d8_18 : decode jdk_42_method_66_code 18 = .ok (.astore_n 2, 1) := by decide +kernel
theorem own_d8_19 : decode jdk_42_method_66_code 19 = .ok (.getstatic 38, 3) := by decide +kernel
theorem own_d8_22 : decode jdk_42_method_66_code 22 = .ok (.ifCond .eq 14, 3) := by decide +kernel
theorem own_d8_25 : decode jdk_42_method_66_code 25 = .ok (.aload_n 0, 1) := by decide +kernel
theorem own_d8_26 : decode jdk_42_method_66_code 26 = .ok (.getfield 15, 3) := by decide +kernel
theorem own_d8_29 : decode jdk_42_method_66_code 29 = .ok (.aload_n 2, 1) := by decide +kernel
theorem own_d8_30 : decode jdk_42_method_66_code 30 = .ok (.getfield 15, 3) := by decide +kernel
theorem own_d8_33 : decode jdk_42_method_66_code 33 = .ok (.if_icmp .ne 21, 3) := by decide +kernel
theorem own_d8_36 : decode jdk_42_method_66_code 36 = .ok (.aload_n 0, 1) := by decide +kernel
theorem own_d8_37 : decode jdk_42_method_66_code 37 = .ok (.getfield 9, 3) := by decide +kernel
theorem own_d8_40 : decode jdk_42_method_66_code 40 = .ok (.aload_n 2, 1) := by decide +kernel
theorem own_d8_41 : decode jdk_42_method_66_code 41 = .ok (.getfield 9, 3) := by decide +kernel
theorem own_d8_44 : decode jdk_42_method_66_code 44 = .ok (.invokestatic 541, 3) := by decide +kernel
theorem own_pd5 : parseMethodDescriptor "([B[B)Z" = some ⟨[(.array .byte), (.array .byte)], some .boolean⟩ := by decide +kernel
theorem own_d8_47 : decode jdk_42_method_66_code 47 = .ok (.ifCond .eq 7, 3) := by decide +kernel
theorem own_d8_54 : decode jdk_42_method_66_code 54 = .ok (.iconst 0, 1) := by decide +kernel
theorem own_d8_55 : decode jdk_42_method_66_code 55 = .ok (.ireturn, 1) := by decide +kernel
theorem own_d8_50 : decode jdk_42_method_66_code 50 = .ok (.iconst 1, 1) := by decide +kernel
theorem own_d8_51 : decode jdk_42_method_66_code 51 = .ok (.goto 4, 3) := by decide +kernel
theorem own_ef_rmSE_00 (m : MethodId) (a1 : Addr) (a2 : Addr) : entryFrame m #[(.ref a1), (.ref a2)] 3 = mkF m 0 #[.val (.ref a1), .val (.ref a2), .unset] [] := by first | (simp [entryFrame, mkF, argsToLocals, Value.category]; done) | rfl
def QSE_00 (Z : State) (a1 : Addr) (a2 : Addr) (cw : Int32) (b1 : Addr) (b2 : Addr) (k1 : ClassId) (k2 : ClassId) (h0 : Heap) (n0 : Nat) (v : Option Value) (h : Heap) (L : List Loc) : Prop := v = some (.int (own_eqL [] [])) ∧ Fr n0 L ∧ h = h0
set_option maxRecDepth 65536 in
set_option maxHeartbeats 40000000 in
theorem rmSE_00 (l : Launch) (Z : State) (a0 : Array Value) (hw : ∀ d ∈ tables_1, d.before a0 Z = true) (ws : List Jvm.Cond) (a1 : Addr) (a2 : Addr) (cw : Int32) (b1 : Addr) (b2 : Addr) (k1 : ClassId) (k2 : ClassId) (h0 : Heap) (n0 : Nat) (Z0 : n0 ≤ h0.size) (E_a2 : Exa Z h0 a2 "java/lang/String") (F_a1_coder : Fld Z h0 a1 "java/lang/String" "coder" "B" (.int (0 : Int32))) (F_a1_value : Fld Z h0 a1 "java/lang/String" "value" "[B" (.ref b1)) (F_a2_coder : Fld Z h0 a2 "java/lang/String" "coder" "B" (.int (0 : Int32))) (F_a2_value : Fld Z h0 a2 "java/lang/String" "value" "[B" (.ref b2)) (V_b1 : Arv Z h0 b1 k1 .byte (0 : Int32) [] (.int (0 : Int32))) (V_b2 : Arv Z h0 b2 k2 .byte (0 : Int32) [] (.int (0 : Int32))) (S_COMPACT_STRINGS : Sta Z h0 "java/lang/String" "COMPACT_STRINGS" "Z" (.int cw)) (hw0 : ¬ (cw = (0 : Int32))) (ne_a1_a2 : a1 ≠ a2) :
    MetFree l (⟨"java/lang/String", "equals", "(Ljava/lang/Object;)Z"⟩ : MethodName) (head1 (Jvm.Cond.code (⟨"java/lang/String", "equals", "(Ljava/lang/Object;)Z"⟩ : MethodName) jdk_42_method_66_code 3 (some .boolean) :: ws) ({ frames := 1, cells := 0, slots := 0, locals := 14 } : Room)) (fun a U => a = #[(.ref a1), (.ref a2)] ∧ Z.Warmed39 U.vm ∧ U.heap = h0) (fun _ _ _ _ _ => True) (fun _ U o U' => ∃ v L, o = .returned v ∧ QSE_00 Z a1 a2 cw b1 b2 k1 k2 h0 n0 v U'.heap L ∧ FrameEnd U o U' L ({ frames := 1, cells := 0, slots := 0, locals := 14 } : Room).cells ({ frames := 1, cells := 0, slots := 0, locals := 14 } : Room).slots) := by
  refine MetFree.of_bodySF (plainFor_of_name own_pn1) hisR ?_
  intro p e s m args below meth c s₁ Bd hml0 hP hK
  obtain ⟨rfl, hZ, hh⟩ := hP
  have hx := Bd.exec
  have hby := Bd.bytes
  have hml : c.maxLocals = 3 := hml0
  have hown : s.vm.findClass "java/lang/String" = some m.cls := findClass_of_methodNamed Bd.named
  have hnm := (name_of_methodNamed Bd.named Bd.method).1
  have X0 : Stand p l e ({ frames := 1, cells := 0, slots := 0, locals := 14 } : Room) s m #[(.ref a1), (.ref a2)] below meth c s₁ [] 0 0 := Stand.of_body Bd
  have e0 : s₁.heap = h0 := by rw [← hh, Bd.state]; rfl
  have N0 := Fr.nil n0
  have K0 : Keep h0 h0 [] := Keep.refl h0 _
  have pre0 : ∀ t, Steps p.tables e below (s₁.setTop (mkF m 0 #[.val (.ref a1), .val (.ref a2), .unset] [])) t → Steps p.tables e below (s₁.setTop (entryFrame m #[(.ref a1), (.ref a2)] 3)) t := fun t k => castTop (own_ef_rmSE_00 m a1 a2) k
  obtain ⟨T102, X102, e102, st102⟩ := instY X0 hx hZ hown (hw _ (List.mem_of_getElem? (i := 52) rfl)) e0 (Ins.self E_a2) (g := (mkF m 8 #[.val (.ref a1), .val (.ref a2), .unset] [(.ref a2)])) rfl rfl (hb hby own_d8_8)
  obtain ⟨T103, X103, e103, st103⟩ := castY X102 hx hZ hown (hw _ (List.mem_of_getElem? (i := 52) rfl)) e102 (Ins.self E_a2) (g := (mkF m 15 #[.val (.ref a1), .val (.ref a2), .unset] [(.ref a2)])) rfl rfl (hb hby own_d8_15)
  obtain ⟨T104, X104, e104, st104⟩ := getS2 X103 hx hZ hown (host := "") (Or.inl (hw _ (List.mem_of_getElem? (i := 53) rfl))) Via.refl e103 S_COMPACT_STRINGS (g := (mkF m 19 #[.val (.ref a1), .val (.ref a2), .val (.ref a2)] [])) rfl (hb hby own_d8_19)
  have hc22_105 : ¬ (cw = (0 : Int32)) := hw0
  obtain ⟨T106, X106, e106, st106⟩ := getF X104 hx hZ hown (host := "") (Or.inl (hw _ (List.mem_of_getElem? (i := 28) rfl))) Via.refl e104 F_a1_coder (g := (mkF m 26 #[.val (.ref a1), .val (.ref a2), .val (.ref a2)] [(.ref a1)])) rfl rfl (hb hby own_d8_26)
  obtain ⟨T107, X107, e107, st107⟩ := getF X106 hx hZ hown (host := "") (Or.inl (hw _ (List.mem_of_getElem? (i := 28) rfl))) Via.refl e106 F_a2_coder (g := (mkF m 30 #[.val (.ref a1), .val (.ref a2), .val (.ref a2)] [(.ref a2), (.int (0 : Int32))])) rfl rfl (hb hby own_d8_30)
  obtain ⟨T108, X108, e108, st108⟩ := getF X107 hx hZ hown (host := "") (Or.inl (hw _ (List.mem_of_getElem? (i := 27) rfl))) Via.refl e107 F_a1_value (g := (mkF m 37 #[.val (.ref a1), .val (.ref a2), .val (.ref a2)] [(.ref a1)])) rfl rfl (hb hby own_d8_37)
  obtain ⟨T109, X109, e109, st109⟩ := getF X108 hx hZ hown (host := "") (Or.inl (hw _ (List.mem_of_getElem? (i := 27) rfl))) Via.refl e108 F_a2_value (g := (mkF m 41 #[.val (.ref a1), .val (.ref a2), .val (.ref a2)] [(.ref a2), (.ref b1)])) rfl rfl (hb hby own_d8_41)
  obtain ⟨_, _, ⟨T110, L110, k110, n110⟩, -, X110, ⟨Lc110, hQ110, l110, y110, z110⟩, st110⟩ := Jvm.LawKit.callS X109 hx (y := (⟨"java/lang/StringLatin1", "equals", "([B[B)Z"⟩ : MethodName)) hown (mvT hZ (hw _ (List.mem_of_getElem? (i := 54) rfl))) (mvT hZ (hw _ (List.mem_of_getElem? (i := 55) rfl))) (mvT hZ (hw _ (List.mem_of_getElem? (i := 56) rfl))) (mvT hZ (hw _ (List.mem_of_getElem? (i := 57) rfl))) (by decide) (backOf (W := 0) (rmLE_00 l Z a0 hw [] b1 b2 k1 k2 h0 n0 (Nat.le_trans Z0 K0.1) V_b1 V_b2) hZ (hw _ (List.mem_of_getElem? (i := 57) rfl)) (hw _ (List.mem_of_getElem? (i := 56) rfl)) (by decide) (by decide)) (g := (mkF m 44 #[.val (.ref a1), .val (.ref a2), .val (.ref a2)] [(.ref b2), (.ref b1)])) rfl (by rw [hml]; rfl) (argsL := [(.ref b1), (.ref b2)]) (rest := []) (lenOf own_pd5 rfl) rfl (by show 2 * 0 + _ ≤ _; exact Nat.le_of_eq rfl) (hb hby own_d8_44) (fun _ _ => ⟨rfl, e109, (by decide : 0 + 0 ≤ _), (by decide : 0 + 0 ≤ _)⟩)
  dsimp only [Pt.U, Pt.locs, Pt.cells, Pt.slots] at X110 l110 y110 z110 st110 hQ110
  subst l110 y110 z110
  obtain ⟨rfl, N110q, e110⟩ := hQ110
  have N110 := Fr.app N0 N110q
  have pre111 : ∀ t, Steps p.tables e below (T110.setTop (mkF m 47 #[.val (.ref a1), .val (.ref a2), .val (.ref a2)] [(.int (own_eqL [] []))])) t → Steps p.tables e below (s₁.setTop (entryFrame m #[(.ref a1), (.ref a2)] 3)) t := fun t k => by
    refine pre0 _ ?_
    show Steps p.tables e below (s₁.setTop (mkF m 0 #[.val (.ref a1), .val (.ref a2), .unset] [])) _
    refine XS.aloadN X0.here hx rfl (hb hby own_d8_0) rfl rfl ?_
    show Steps p.tables e below (s₁.setTop (mkF m 1 #[.val (.ref a1), .val (.ref a2), .unset] [(.ref a1)])) _
    refine XS.aloadN X0.here hx rfl (hb hby own_d8_1) rfl rfl ?_
    show Steps p.tables e below (s₁.setTop (mkF m 2 #[.val (.ref a1), .val (.ref a2), .unset] [(.ref a2), (.ref a1)])) _
    refine Jvm.RoadKit.acmp (g := (mkF m 2 #[.val (.ref a1), .val (.ref a2), .unset] [(.ref a2), (.ref a1)])) X0 hx rfl rfl rfl (pc0 := 2) (pc' := 7) (same := false) rfl (hb hby own_d8_2) rfl (decide_eq_false fun q => ne_a1_a2 (Value.ref.inj q)) (by decide) (by decide) ?_
    show Steps p.tables e below (s₁.setTop (mkF m 7 #[.val (.ref a1), .val (.ref a2), .unset] [])) _
    refine XS.aloadN X0.here hx rfl (hb hby own_d8_7) rfl rfl ?_
    show Steps p.tables e below (s₁.setTop (mkF m 8 #[.val (.ref a1), .val (.ref a2), .unset] [(.ref a2)])) _
    refine st102 _ ?_
    show Steps p.tables e below (T102.setTop (mkF m 11 #[.val (.ref a1), .val (.ref a2), .unset] [(.int (1 : Int32))])) _
    refine XS.ifNo X102.here hx rfl (hb hby own_d8_11) rfl ((if0 _ _).trans (feq (by decide : ¬ ((1 : Int32) = (0 : Int32)))).1) ?_
    show Steps p.tables e below (T102.setTop (mkF m 14 #[.val (.ref a1), .val (.ref a2), .unset] [])) _
    refine XS.aloadN X102.here hx rfl (hb hby own_d8_14) rfl rfl ?_
    show Steps p.tables e below (T102.setTop (mkF m 15 #[.val (.ref a1), .val (.ref a2), .unset] [(.ref a2)])) _
    refine st103 _ ?_
    show Steps p.tables e below (T103.setTop (mkF m 18 #[.val (.ref a1), .val (.ref a2), .unset] [(.ref a2)])) _
    refine XS.astoreN X103.here hx rfl (hb hby own_d8_18) rfl rfl (l' := #[.val (.ref a1), .val (.ref a2), .val (.ref a2)]) rfl ?_
    show Steps p.tables e below (T103.setTop (mkF m 19 #[.val (.ref a1), .val (.ref a2), .val (.ref a2)] [])) _
    refine st104 _ ?_
    show Steps p.tables e below (T104.setTop (mkF m 22 #[.val (.ref a1), .val (.ref a2), .val (.ref a2)] [(.int cw)])) _
    refine XS.ifNo X104.here hx rfl (hb hby own_d8_22) rfl ((if0 _ _).trans (feq hc22_105).1) ?_
    show Steps p.tables e below (T104.setTop (mkF m 25 #[.val (.ref a1), .val (.ref a2), .val (.ref a2)] [])) _
    refine XS.aloadN X104.here hx rfl (hb hby own_d8_25) rfl rfl ?_
    show Steps p.tables e below (T104.setTop (mkF m 26 #[.val (.ref a1), .val (.ref a2), .val (.ref a2)] [(.ref a1)])) _
    refine st106 _ ?_
    show Steps p.tables e below (T106.setTop (mkF m 29 #[.val (.ref a1), .val (.ref a2), .val (.ref a2)] [(.int (0 : Int32))])) _
    refine XS.aloadN X106.here hx rfl (hb hby own_d8_29) rfl rfl ?_
    show Steps p.tables e below (T106.setTop (mkF m 30 #[.val (.ref a1), .val (.ref a2), .val (.ref a2)] [(.ref a2), (.int (0 : Int32))])) _
    refine st107 _ ?_
    show Steps p.tables e below (T107.setTop (mkF m 33 #[.val (.ref a1), .val (.ref a2), .val (.ref a2)] [(.int (0 : Int32)), (.int (0 : Int32))])) _
    refine XS.icmpNo X107.here hx rfl (hb hby own_d8_33) rfl (teq (by decide : ((0 : Int32) = (0 : Int32)))).2 ?_
    show Steps p.tables e below (T107.setTop (mkF m 36 #[.val (.ref a1), .val (.ref a2), .val (.ref a2)] [])) _
    refine XS.aloadN X107.here hx rfl (hb hby own_d8_36) rfl rfl ?_
    show Steps p.tables e below (T107.setTop (mkF m 37 #[.val (.ref a1), .val (.ref a2), .val (.ref a2)] [(.ref a1)])) _
    refine st108 _ ?_
    show Steps p.tables e below (T108.setTop (mkF m 40 #[.val (.ref a1), .val (.ref a2), .val (.ref a2)] [(.ref b1)])) _
    refine XS.aloadN X108.here hx rfl (hb hby own_d8_40) rfl rfl ?_
    show Steps p.tables e below (T108.setTop (mkF m 41 #[.val (.ref a1), .val (.ref a2), .val (.ref a2)] [(.ref a2), (.ref b1)])) _
    refine st109 _ ?_
    show Steps p.tables e below (T109.setTop (mkF m 44 #[.val (.ref a1), .val (.ref a2), .val (.ref a2)] [(.ref b2), (.ref b1)])) _
    refine st110 _ ?_
    exact k
  by_cases hc47 : (own_eqL [] []) = (0 : Int32)
  · obtain ⟨fs, hr, hrun, hended, hW, hsame⟩ := X110.leave (v := some (.int (0 : Int32))) (fun h => by rw [Bd.returns] at h; cases h)
    refine ⟨_, _, pre111 _ ?_, hrun, hended, _, _, rfl, ?_, ⟨_, rfl⟩, hW, hsame.mono (by decide) (by decide)⟩
    · show Steps p.tables e below (T110.setTop (mkF m 47 #[.val (.ref a1), .val (.ref a2), .val (.ref a2)] [(.int (own_eqL [] []))])) _
      refine XS.ifYes X110.here hx rfl (pc0 := 47) (pc' := 54) rfl (hb hby own_d8_47) rfl ((if0 _ _).trans (teq hc47).1) (by decide) (by decide) ?_
      show Steps p.tables e below (T110.setTop (mkF m 54 #[.val (.ref a1), .val (.ref a2), .val (.ref a2)] [])) _
      refine XS.iconst X110.here hx rfl (hb hby own_d8_54) ?_
      show Steps p.tables e below (T110.setTop (mkF m 55 #[.val (.ref a1), .val (.ref a2), .val (.ref a2)] [(.int (0 : Int32))])) _
      exact retN X110 hx (t := .boolean) Bd.returns (by simp) (hb hby own_d8_55) hr
    · show QSE_00 Z a1 a2 cw b1 b2 k1 k2 h0 n0 _ T110.heap _
      rw [e110]
      exact ⟨(congrArg (fun z => some (Value.int z)) (hc47.symm : (0 : Int32) = (own_eqL [] []))), N110, rfl⟩
  · obtain ⟨fs, hr, hrun, hended, hW, hsame⟩ := X110.leave (v := some (.int (1 : Int32))) (fun h => by rw [Bd.returns] at h; cases h)
    refine ⟨_, _, pre111 _ ?_, hrun, hended, _, _, rfl, ?_, ⟨_, rfl⟩, hW, hsame.mono (by decide) (by decide)⟩
    · show Steps p.tables e below (T110.setTop (mkF m 47 #[.val (.ref a1), .val (.ref a2), .val (.ref a2)] [(.int (own_eqL [] []))])) _
      refine XS.ifNo X110.here hx rfl (hb hby own_d8_47) rfl ((if0 _ _).trans (feq hc47).1) ?_
      show Steps p.tables e below (T110.setTop (mkF m 50 #[.val (.ref a1), .val (.ref a2), .val (.ref a2)] [])) _
      refine XS.iconst X110.here hx rfl (hb hby own_d8_50) ?_
      show Steps p.tables e below (T110.setTop (mkF m 51 #[.val (.ref a1), .val (.ref a2), .val (.ref a2)] [(.int (1 : Int32))])) _
      refine XS.goto X110.here hx rfl (pc0 := 51) (pc' := 55) rfl (hb hby own_d8_51) (by decide) (by decide) ?_
      show Steps p.tables e below (T110.setTop (mkF m 55 #[.val (.ref a1), .val (.ref a2), .val (.ref a2)] [(.int (1 : Int32))])) _
      exact retN X110 hx (t := .boolean) Bd.returns (by simp) (hb hby own_d8_55) hr
    · show QSE_00 Z a1 a2 cw b1 b2 k1 k2 h0 n0 _ T110.heap _
      rw [e110]
      exact ⟨(congrArg (fun z => some (Value.int z)) ((own_eqL1 hc47).symm : (1 : Int32) = (own_eqL [] []))), N110, rfl⟩
theorem own_d9_34 : decode jdk_43_method_13_code 34 = .ok (.iconst 0, 1) := by decide +kernel
theorem own_d9_35 : decode jdk_43_method_13_code 35 = .ok (.ireturn, 1) := by decide +kernel
theorem own_ef_rmLE_01 (m : MethodId) (a1 : Addr) (a2 : Addr) : entryFrame m #[(.ref a1), (.ref a2)] 3 = mkF m 0 #[.val (.ref a1), .val (.ref a2), .unset] [] := by first | (simp [entryFrame, mkF, argsToLocals, Value.category]; done) | rfl
def QLE_01 (Z : State) (a1 : Addr) (a2 : Addr) (k1 : ClassId) (k2 : ClassId) (v0 : Int32) (h0 : Heap) (n0 : Nat) (v : Option Value) (h : Heap) (L : List Loc) : Prop := v = some (.int (own_eqL [] [v0])) ∧ Fr n0 L ∧ h = h0
set_option maxRecDepth 65536 in
set_option maxHeartbeats 40000000 in
theorem rmLE_01 (l : Launch) (Z : State) (a0 : Array Value) (hw : ∀ d ∈ tables_1, d.before a0 Z = true) (ws : List Jvm.Cond) (a1 : Addr) (a2 : Addr) (k1 : ClassId) (k2 : ClassId) (v0 : Int32) (h0 : Heap) (n0 : Nat) (Z0 : n0 ≤ h0.size) (V_a1 : Arv Z h0 a1 k1 .byte (0 : Int32) [] (.int (0 : Int32))) (V_a2 : Arv Z h0 a2 k2 .byte (1 : Int32) [(.int v0)] (.int (0 : Int32))) :
    MetFree l (⟨"java/lang/StringLatin1", "equals", "([B[B)Z"⟩ : MethodName) (head1 (Jvm.Cond.code (⟨"java/lang/StringLatin1", "equals", "([B[B)Z"⟩ : MethodName) jdk_43_method_13_code 3 (some .boolean) :: ws) ({ frames := 0, cells := 0, slots := 0, locals := 0 } : Room)) (fun a U => a = #[(.ref a1), (.ref a2)] ∧ Z.Warmed39 U.vm ∧ U.heap = h0) (fun _ _ _ _ _ => True) (fun _ U o U' => ∃ v L, o = .returned v ∧ QLE_01 Z a1 a2 k1 k2 v0 h0 n0 v U'.heap L ∧ FrameEnd U o U' L ({ frames := 0, cells := 0, slots := 0, locals := 0 } : Room).cells ({ frames := 0, cells := 0, slots := 0, locals := 0 } : Room).slots) := by
  refine MetFree.of_bodySF (plainFor_of_name own_pn3) hisR ?_
  intro p e s m args below meth c s₁ Bd hml0 hP hK
  obtain ⟨rfl, hZ, hh⟩ := hP
  have hx := Bd.exec
  have hby := Bd.bytes
  have hml : c.maxLocals = 3 := hml0
  have hown : s.vm.findClass "java/lang/StringLatin1" = some m.cls := findClass_of_methodNamed Bd.named
  have hnm := (name_of_methodNamed Bd.named Bd.method).1
  have X0 : Stand p l e ({ frames := 0, cells := 0, slots := 0, locals := 0 } : Room) s m #[(.ref a1), (.ref a2)] below meth c s₁ [] 0 0 := Stand.of_body Bd
  have e0 : s₁.heap = h0 := by rw [← hh, Bd.state]; rfl
  have N0 := Fr.nil n0
  have K0 : Keep h0 h0 [] := Keep.refl h0 _
  have pre0 : ∀ t, Steps p.tables e below (s₁.setTop (mkF m 0 #[.val (.ref a1), .val (.ref a2), .unset] [])) t → Steps p.tables e below (s₁.setTop (entryFrame m #[(.ref a1), (.ref a2)] 3)) t := fun t k => castTop (own_ef_rmLE_01 m a1 a2) k
  obtain ⟨cl112, Ar112, q112, S112, M112, H112, G112⟩ := id V_a1
  obtain ⟨cl113, Ar113, q113, S113, M113, H113, G113⟩ := id V_a2
  obtain ⟨fs, hr, hrun, hended, hW, hsame⟩ := X0.leave (v := some (.int (0 : Int32))) (fun h => by rw [Bd.returns] at h; cases h)
  refine ⟨_, _, pre0 _ ?_, hrun, hended, _, _, rfl, ?_, ⟨_, rfl⟩, hW, hsame.mono (by decide) (by decide)⟩
  · show Steps p.tables e below (s₁.setTop (mkF m 0 #[.val (.ref a1), .val (.ref a2), .unset] [])) _
    refine XS.aloadN X0.here hx rfl (hb hby own_d9_0) rfl rfl ?_
    show Steps p.tables e below (s₁.setTop (mkF m 1 #[.val (.ref a1), .val (.ref a2), .unset] [(.ref a1)])) _
    refine X0.arraylength hx (by rw [e0]; exact Ar112.1) (State.isArrayOf_alike hZ.alike Ar112.2.1) (g := (mkF m 1 #[.val (.ref a1), .val (.ref a2), .unset] [(.ref a1)])) rfl rfl (hb hby own_d9_1) _ ?_
    rw [len_of S112 M112]
    show Steps p.tables e below (s₁.setTop (mkF m 2 #[.val (.ref a1), .val (.ref a2), .unset] [(.int (0 : Int32))])) _
    refine XS.aloadN X0.here hx rfl (hb hby own_d9_2) rfl rfl ?_
    show Steps p.tables e below (s₁.setTop (mkF m 3 #[.val (.ref a1), .val (.ref a2), .unset] [(.ref a2), (.int (0 : Int32))])) _
    refine X0.arraylength hx (by rw [e0]; exact Ar113.1) (State.isArrayOf_alike hZ.alike Ar113.2.1) (g := (mkF m 3 #[.val (.ref a1), .val (.ref a2), .unset] [(.ref a2), (.int (0 : Int32))])) rfl rfl (hb hby own_d9_3) _ ?_
    rw [len_of S113 M113]
    show Steps p.tables e below (s₁.setTop (mkF m 4 #[.val (.ref a1), .val (.ref a2), .unset] [(.int (1 : Int32)), (.int (0 : Int32))])) _
    refine XS.icmpYes X0.here hx rfl (pc0 := 4) (pc' := 34) rfl (hb hby own_d9_4) rfl (feq (by decide : ¬ ((0 : Int32) = (1 : Int32)))).2 (by decide) (by decide) ?_
    show Steps p.tables e below (s₁.setTop (mkF m 34 #[.val (.ref a1), .val (.ref a2), .unset] [])) _
    refine XS.iconst X0.here hx rfl (hb hby own_d9_34) ?_
    show Steps p.tables e below (s₁.setTop (mkF m 35 #[.val (.ref a1), .val (.ref a2), .unset] [(.int (0 : Int32))])) _
    exact retN X0 hx (t := .boolean) Bd.returns (by simp) (hb hby own_d9_35) hr
  · show QLE_01 Z a1 a2 k1 k2 v0 h0 n0 _ s₁.heap _
    rw [e0]
    exact ⟨(congrArg (fun z => some (Value.int z)) (by simp [own_eqL] : (0 : Int32) = (own_eqL [] [v0]))), N0, rfl⟩
theorem own_ef_rmSE_01 (m : MethodId) (a1 : Addr) (a2 : Addr) : entryFrame m #[(.ref a1), (.ref a2)] 3 = mkF m 0 #[.val (.ref a1), .val (.ref a2), .unset] [] := by first | (simp [entryFrame, mkF, argsToLocals, Value.category]; done) | rfl
def QSE_01 (Z : State) (a1 : Addr) (a2 : Addr) (cw : Int32) (b1 : Addr) (b2 : Addr) (k1 : ClassId) (k2 : ClassId) (v0 : Int32) (h0 : Heap) (n0 : Nat) (v : Option Value) (h : Heap) (L : List Loc) : Prop := v = some (.int (own_eqL [] [v0])) ∧ Fr n0 L ∧ h = h0
set_option maxRecDepth 65536 in
set_option maxHeartbeats 40000000 in
theorem rmSE_01 (l : Launch) (Z : State) (a0 : Array Value) (hw : ∀ d ∈ tables_1, d.before a0 Z = true) (ws : List Jvm.Cond) (a1 : Addr) (a2 : Addr) (cw : Int32) (b1 : Addr) (b2 : Addr) (k1 : ClassId) (k2 : ClassId) (v0 : Int32) (h0 : Heap) (n0 : Nat) (Z0 : n0 ≤ h0.size) (E_a2 : Exa Z h0 a2 "java/lang/String") (F_a1_coder : Fld Z h0 a1 "java/lang/String" "coder" "B" (.int (0 : Int32))) (F_a1_value : Fld Z h0 a1 "java/lang/String" "value" "[B" (.ref b1)) (F_a2_coder : Fld Z h0 a2 "java/lang/String" "coder" "B" (.int (0 : Int32))) (F_a2_value : Fld Z h0 a2 "java/lang/String" "value" "[B" (.ref b2)) (V_b1 : Arv Z h0 b1 k1 .byte (0 : Int32) [] (.int (0 : Int32))) (V_b2 : Arv Z h0 b2 k2 .byte (1 : Int32) [(.int v0)] (.int (0 : Int32))) (S_COMPACT_STRINGS : Sta Z h0 "java/lang/String" "COMPACT_STRINGS" "Z" (.int cw)) (hw0 : ¬ (cw = (0 : Int32))) (ne_a1_a2 : a1 ≠ a2) :
    MetFree l (⟨"java/lang/String", "equals", "(Ljava/lang/Object;)Z"⟩ : MethodName) (head1 (Jvm.Cond.code (⟨"java/lang/String", "equals", "(Ljava/lang/Object;)Z"⟩ : MethodName) jdk_42_method_66_code 3 (some .boolean) :: ws) ({ frames := 1, cells := 0, slots := 0, locals := 14 } : Room)) (fun a U => a = #[(.ref a1), (.ref a2)] ∧ Z.Warmed39 U.vm ∧ U.heap = h0) (fun _ _ _ _ _ => True) (fun _ U o U' => ∃ v L, o = .returned v ∧ QSE_01 Z a1 a2 cw b1 b2 k1 k2 v0 h0 n0 v U'.heap L ∧ FrameEnd U o U' L ({ frames := 1, cells := 0, slots := 0, locals := 14 } : Room).cells ({ frames := 1, cells := 0, slots := 0, locals := 14 } : Room).slots) := by
  refine MetFree.of_bodySF (plainFor_of_name own_pn1) hisR ?_
  intro p e s m args below meth c s₁ Bd hml0 hP hK
  obtain ⟨rfl, hZ, hh⟩ := hP
  have hx := Bd.exec
  have hby := Bd.bytes
  have hml : c.maxLocals = 3 := hml0
  have hown : s.vm.findClass "java/lang/String" = some m.cls := findClass_of_methodNamed Bd.named
  have hnm := (name_of_methodNamed Bd.named Bd.method).1
  have X0 : Stand p l e ({ frames := 1, cells := 0, slots := 0, locals := 14 } : Room) s m #[(.ref a1), (.ref a2)] below meth c s₁ [] 0 0 := Stand.of_body Bd
  have e0 : s₁.heap = h0 := by rw [← hh, Bd.state]; rfl
  have N0 := Fr.nil n0
  have K0 : Keep h0 h0 [] := Keep.refl h0 _
  have pre0 : ∀ t, Steps p.tables e below (s₁.setTop (mkF m 0 #[.val (.ref a1), .val (.ref a2), .unset] [])) t → Steps p.tables e below (s₁.setTop (entryFrame m #[(.ref a1), (.ref a2)] 3)) t := fun t k => castTop (own_ef_rmSE_01 m a1 a2) k
  obtain ⟨T114, X114, e114, st114⟩ := instY X0 hx hZ hown (hw _ (List.mem_of_getElem? (i := 52) rfl)) e0 (Ins.self E_a2) (g := (mkF m 8 #[.val (.ref a1), .val (.ref a2), .unset] [(.ref a2)])) rfl rfl (hb hby own_d8_8)
  obtain ⟨T115, X115, e115, st115⟩ := castY X114 hx hZ hown (hw _ (List.mem_of_getElem? (i := 52) rfl)) e114 (Ins.self E_a2) (g := (mkF m 15 #[.val (.ref a1), .val (.ref a2), .unset] [(.ref a2)])) rfl rfl (hb hby own_d8_15)
  obtain ⟨T116, X116, e116, st116⟩ := getS2 X115 hx hZ hown (host := "") (Or.inl (hw _ (List.mem_of_getElem? (i := 53) rfl))) Via.refl e115 S_COMPACT_STRINGS (g := (mkF m 19 #[.val (.ref a1), .val (.ref a2), .val (.ref a2)] [])) rfl (hb hby own_d8_19)
  have hc22_117 : ¬ (cw = (0 : Int32)) := hw0
  obtain ⟨T118, X118, e118, st118⟩ := getF X116 hx hZ hown (host := "") (Or.inl (hw _ (List.mem_of_getElem? (i := 28) rfl))) Via.refl e116 F_a1_coder (g := (mkF m 26 #[.val (.ref a1), .val (.ref a2), .val (.ref a2)] [(.ref a1)])) rfl rfl (hb hby own_d8_26)
  obtain ⟨T119, X119, e119, st119⟩ := getF X118 hx hZ hown (host := "") (Or.inl (hw _ (List.mem_of_getElem? (i := 28) rfl))) Via.refl e118 F_a2_coder (g := (mkF m 30 #[.val (.ref a1), .val (.ref a2), .val (.ref a2)] [(.ref a2), (.int (0 : Int32))])) rfl rfl (hb hby own_d8_30)
  obtain ⟨T120, X120, e120, st120⟩ := getF X119 hx hZ hown (host := "") (Or.inl (hw _ (List.mem_of_getElem? (i := 27) rfl))) Via.refl e119 F_a1_value (g := (mkF m 37 #[.val (.ref a1), .val (.ref a2), .val (.ref a2)] [(.ref a1)])) rfl rfl (hb hby own_d8_37)
  obtain ⟨T121, X121, e121, st121⟩ := getF X120 hx hZ hown (host := "") (Or.inl (hw _ (List.mem_of_getElem? (i := 27) rfl))) Via.refl e120 F_a2_value (g := (mkF m 41 #[.val (.ref a1), .val (.ref a2), .val (.ref a2)] [(.ref a2), (.ref b1)])) rfl rfl (hb hby own_d8_41)
  obtain ⟨_, _, ⟨T122, L122, k122, n122⟩, -, X122, ⟨Lc122, hQ122, l122, y122, z122⟩, st122⟩ := Jvm.LawKit.callS X121 hx (y := (⟨"java/lang/StringLatin1", "equals", "([B[B)Z"⟩ : MethodName)) hown (mvT hZ (hw _ (List.mem_of_getElem? (i := 54) rfl))) (mvT hZ (hw _ (List.mem_of_getElem? (i := 55) rfl))) (mvT hZ (hw _ (List.mem_of_getElem? (i := 56) rfl))) (mvT hZ (hw _ (List.mem_of_getElem? (i := 57) rfl))) (by decide) (backOf (W := 0) (rmLE_01 l Z a0 hw [] b1 b2 k1 k2 v0 h0 n0 (Nat.le_trans Z0 K0.1) V_b1 V_b2) hZ (hw _ (List.mem_of_getElem? (i := 57) rfl)) (hw _ (List.mem_of_getElem? (i := 56) rfl)) (by decide) (by decide)) (g := (mkF m 44 #[.val (.ref a1), .val (.ref a2), .val (.ref a2)] [(.ref b2), (.ref b1)])) rfl (by rw [hml]; rfl) (argsL := [(.ref b1), (.ref b2)]) (rest := []) (lenOf own_pd5 rfl) rfl (by show 2 * 0 + _ ≤ _; exact Nat.le_of_eq rfl) (hb hby own_d8_44) (fun _ _ => ⟨rfl, e121, (by decide : 0 + 0 ≤ _), (by decide : 0 + 0 ≤ _)⟩)
  dsimp only [Pt.U, Pt.locs, Pt.cells, Pt.slots] at X122 l122 y122 z122 st122 hQ122
  subst l122 y122 z122
  obtain ⟨rfl, N122q, e122⟩ := hQ122
  have N122 := Fr.app N0 N122q
  have pre123 : ∀ t, Steps p.tables e below (T122.setTop (mkF m 47 #[.val (.ref a1), .val (.ref a2), .val (.ref a2)] [(.int (own_eqL [] [v0]))])) t → Steps p.tables e below (s₁.setTop (entryFrame m #[(.ref a1), (.ref a2)] 3)) t := fun t k => by
    refine pre0 _ ?_
    show Steps p.tables e below (s₁.setTop (mkF m 0 #[.val (.ref a1), .val (.ref a2), .unset] [])) _
    refine XS.aloadN X0.here hx rfl (hb hby own_d8_0) rfl rfl ?_
    show Steps p.tables e below (s₁.setTop (mkF m 1 #[.val (.ref a1), .val (.ref a2), .unset] [(.ref a1)])) _
    refine XS.aloadN X0.here hx rfl (hb hby own_d8_1) rfl rfl ?_
    show Steps p.tables e below (s₁.setTop (mkF m 2 #[.val (.ref a1), .val (.ref a2), .unset] [(.ref a2), (.ref a1)])) _
    refine Jvm.RoadKit.acmp (g := (mkF m 2 #[.val (.ref a1), .val (.ref a2), .unset] [(.ref a2), (.ref a1)])) X0 hx rfl rfl rfl (pc0 := 2) (pc' := 7) (same := false) rfl (hb hby own_d8_2) rfl (decide_eq_false fun q => ne_a1_a2 (Value.ref.inj q)) (by decide) (by decide) ?_
    show Steps p.tables e below (s₁.setTop (mkF m 7 #[.val (.ref a1), .val (.ref a2), .unset] [])) _
    refine XS.aloadN X0.here hx rfl (hb hby own_d8_7) rfl rfl ?_
    show Steps p.tables e below (s₁.setTop (mkF m 8 #[.val (.ref a1), .val (.ref a2), .unset] [(.ref a2)])) _
    refine st114 _ ?_
    show Steps p.tables e below (T114.setTop (mkF m 11 #[.val (.ref a1), .val (.ref a2), .unset] [(.int (1 : Int32))])) _
    refine XS.ifNo X114.here hx rfl (hb hby own_d8_11) rfl ((if0 _ _).trans (feq (by decide : ¬ ((1 : Int32) = (0 : Int32)))).1) ?_
    show Steps p.tables e below (T114.setTop (mkF m 14 #[.val (.ref a1), .val (.ref a2), .unset] [])) _
    refine XS.aloadN X114.here hx rfl (hb hby own_d8_14) rfl rfl ?_
    show Steps p.tables e below (T114.setTop (mkF m 15 #[.val (.ref a1), .val (.ref a2), .unset] [(.ref a2)])) _
    refine st115 _ ?_
    show Steps p.tables e below (T115.setTop (mkF m 18 #[.val (.ref a1), .val (.ref a2), .unset] [(.ref a2)])) _
    refine XS.astoreN X115.here hx rfl (hb hby own_d8_18) rfl rfl (l' := #[.val (.ref a1), .val (.ref a2), .val (.ref a2)]) rfl ?_
    show Steps p.tables e below (T115.setTop (mkF m 19 #[.val (.ref a1), .val (.ref a2), .val (.ref a2)] [])) _
    refine st116 _ ?_
    show Steps p.tables e below (T116.setTop (mkF m 22 #[.val (.ref a1), .val (.ref a2), .val (.ref a2)] [(.int cw)])) _
    refine XS.ifNo X116.here hx rfl (hb hby own_d8_22) rfl ((if0 _ _).trans (feq hc22_117).1) ?_
    show Steps p.tables e below (T116.setTop (mkF m 25 #[.val (.ref a1), .val (.ref a2), .val (.ref a2)] [])) _
    refine XS.aloadN X116.here hx rfl (hb hby own_d8_25) rfl rfl ?_
    show Steps p.tables e below (T116.setTop (mkF m 26 #[.val (.ref a1), .val (.ref a2), .val (.ref a2)] [(.ref a1)])) _
    refine st118 _ ?_
    show Steps p.tables e below (T118.setTop (mkF m 29 #[.val (.ref a1), .val (.ref a2), .val (.ref a2)] [(.int (0 : Int32))])) _
    refine XS.aloadN X118.here hx rfl (hb hby own_d8_29) rfl rfl ?_
    show Steps p.tables e below (T118.setTop (mkF m 30 #[.val (.ref a1), .val (.ref a2), .val (.ref a2)] [(.ref a2), (.int (0 : Int32))])) _
    refine st119 _ ?_
    show Steps p.tables e below (T119.setTop (mkF m 33 #[.val (.ref a1), .val (.ref a2), .val (.ref a2)] [(.int (0 : Int32)), (.int (0 : Int32))])) _
    refine XS.icmpNo X119.here hx rfl (hb hby own_d8_33) rfl (teq (by decide : ((0 : Int32) = (0 : Int32)))).2 ?_
    show Steps p.tables e below (T119.setTop (mkF m 36 #[.val (.ref a1), .val (.ref a2), .val (.ref a2)] [])) _
    refine XS.aloadN X119.here hx rfl (hb hby own_d8_36) rfl rfl ?_
    show Steps p.tables e below (T119.setTop (mkF m 37 #[.val (.ref a1), .val (.ref a2), .val (.ref a2)] [(.ref a1)])) _
    refine st120 _ ?_
    show Steps p.tables e below (T120.setTop (mkF m 40 #[.val (.ref a1), .val (.ref a2), .val (.ref a2)] [(.ref b1)])) _
    refine XS.aloadN X120.here hx rfl (hb hby own_d8_40) rfl rfl ?_
    show Steps p.tables e below (T120.setTop (mkF m 41 #[.val (.ref a1), .val (.ref a2), .val (.ref a2)] [(.ref a2), (.ref b1)])) _
    refine st121 _ ?_
    show Steps p.tables e below (T121.setTop (mkF m 44 #[.val (.ref a1), .val (.ref a2), .val (.ref a2)] [(.ref b2), (.ref b1)])) _
    refine st122 _ ?_
    exact k
  by_cases hc47 : (own_eqL [] [v0]) = (0 : Int32)
  · obtain ⟨fs, hr, hrun, hended, hW, hsame⟩ := X122.leave (v := some (.int (0 : Int32))) (fun h => by rw [Bd.returns] at h; cases h)
    refine ⟨_, _, pre123 _ ?_, hrun, hended, _, _, rfl, ?_, ⟨_, rfl⟩, hW, hsame.mono (by decide) (by decide)⟩
    · show Steps p.tables e below (T122.setTop (mkF m 47 #[.val (.ref a1), .val (.ref a2), .val (.ref a2)] [(.int (own_eqL [] [v0]))])) _
      refine XS.ifYes X122.here hx rfl (pc0 := 47) (pc' := 54) rfl (hb hby own_d8_47) rfl ((if0 _ _).trans (teq hc47).1) (by decide) (by decide) ?_
      show Steps p.tables e below (T122.setTop (mkF m 54 #[.val (.ref a1), .val (.ref a2), .val (.ref a2)] [])) _
      refine XS.iconst X122.here hx rfl (hb hby own_d8_54) ?_
      show Steps p.tables e below (T122.setTop (mkF m 55 #[.val (.ref a1), .val (.ref a2), .val (.ref a2)] [(.int (0 : Int32))])) _
      exact retN X122 hx (t := .boolean) Bd.returns (by simp) (hb hby own_d8_55) hr
    · show QSE_01 Z a1 a2 cw b1 b2 k1 k2 v0 h0 n0 _ T122.heap _
      rw [e122]
      exact ⟨(congrArg (fun z => some (Value.int z)) (hc47.symm : (0 : Int32) = (own_eqL [] [v0]))), N122, rfl⟩
  · obtain ⟨fs, hr, hrun, hended, hW, hsame⟩ := X122.leave (v := some (.int (1 : Int32))) (fun h => by rw [Bd.returns] at h; cases h)
    refine ⟨_, _, pre123 _ ?_, hrun, hended, _, _, rfl, ?_, ⟨_, rfl⟩, hW, hsame.mono (by decide) (by decide)⟩
    · show Steps p.tables e below (T122.setTop (mkF m 47 #[.val (.ref a1), .val (.ref a2), .val (.ref a2)] [(.int (own_eqL [] [v0]))])) _
      refine XS.ifNo X122.here hx rfl (hb hby own_d8_47) rfl ((if0 _ _).trans (feq hc47).1) ?_
      show Steps p.tables e below (T122.setTop (mkF m 50 #[.val (.ref a1), .val (.ref a2), .val (.ref a2)] [])) _
      refine XS.iconst X122.here hx rfl (hb hby own_d8_50) ?_
      show Steps p.tables e below (T122.setTop (mkF m 51 #[.val (.ref a1), .val (.ref a2), .val (.ref a2)] [(.int (1 : Int32))])) _
      refine XS.goto X122.here hx rfl (pc0 := 51) (pc' := 55) rfl (hb hby own_d8_51) (by decide) (by decide) ?_
      show Steps p.tables e below (T122.setTop (mkF m 55 #[.val (.ref a1), .val (.ref a2), .val (.ref a2)] [(.int (1 : Int32))])) _
      exact retN X122 hx (t := .boolean) Bd.returns (by simp) (hb hby own_d8_55) hr
    · show QSE_01 Z a1 a2 cw b1 b2 k1 k2 v0 h0 n0 _ T122.heap _
      rw [e122]
      exact ⟨(congrArg (fun z => some (Value.int z)) ((own_eqL1 hc47).symm : (1 : Int32) = (own_eqL [] [v0]))), N122, rfl⟩
theorem own_ef_rmLE_02 (m : MethodId) (a1 : Addr) (a2 : Addr) : entryFrame m #[(.ref a1), (.ref a2)] 3 = mkF m 0 #[.val (.ref a1), .val (.ref a2), .unset] [] := by first | (simp [entryFrame, mkF, argsToLocals, Value.category]; done) | rfl
def QLE_02 (Z : State) (a1 : Addr) (a2 : Addr) (k1 : ClassId) (k2 : ClassId) (v0 : Int32) (v1 : Int32) (h0 : Heap) (n0 : Nat) (v : Option Value) (h : Heap) (L : List Loc) : Prop := v = some (.int (own_eqL [] [v0, v1])) ∧ Fr n0 L ∧ h = h0
set_option maxRecDepth 65536 in
set_option maxHeartbeats 40000000 in
theorem rmLE_02 (l : Launch) (Z : State) (a0 : Array Value) (hw : ∀ d ∈ tables_1, d.before a0 Z = true) (ws : List Jvm.Cond) (a1 : Addr) (a2 : Addr) (k1 : ClassId) (k2 : ClassId) (v0 : Int32) (v1 : Int32) (h0 : Heap) (n0 : Nat) (Z0 : n0 ≤ h0.size) (V_a1 : Arv Z h0 a1 k1 .byte (0 : Int32) [] (.int (0 : Int32))) (V_a2 : Arv Z h0 a2 k2 .byte (2 : Int32) [(.int v0), (.int v1)] (.int (0 : Int32))) :
    MetFree l (⟨"java/lang/StringLatin1", "equals", "([B[B)Z"⟩ : MethodName) (head1 (Jvm.Cond.code (⟨"java/lang/StringLatin1", "equals", "([B[B)Z"⟩ : MethodName) jdk_43_method_13_code 3 (some .boolean) :: ws) ({ frames := 0, cells := 0, slots := 0, locals := 0 } : Room)) (fun a U => a = #[(.ref a1), (.ref a2)] ∧ Z.Warmed39 U.vm ∧ U.heap = h0) (fun _ _ _ _ _ => True) (fun _ U o U' => ∃ v L, o = .returned v ∧ QLE_02 Z a1 a2 k1 k2 v0 v1 h0 n0 v U'.heap L ∧ FrameEnd U o U' L ({ frames := 0, cells := 0, slots := 0, locals := 0 } : Room).cells ({ frames := 0, cells := 0, slots := 0, locals := 0 } : Room).slots) := by
  refine MetFree.of_bodySF (plainFor_of_name own_pn3) hisR ?_
  intro p e s m args below meth c s₁ Bd hml0 hP hK
  obtain ⟨rfl, hZ, hh⟩ := hP
  have hx := Bd.exec
  have hby := Bd.bytes
  have hml : c.maxLocals = 3 := hml0
  have hown : s.vm.findClass "java/lang/StringLatin1" = some m.cls := findClass_of_methodNamed Bd.named
  have hnm := (name_of_methodNamed Bd.named Bd.method).1
  have X0 : Stand p l e ({ frames := 0, cells := 0, slots := 0, locals := 0 } : Room) s m #[(.ref a1), (.ref a2)] below meth c s₁ [] 0 0 := Stand.of_body Bd
  have e0 : s₁.heap = h0 := by rw [← hh, Bd.state]; rfl
  have N0 := Fr.nil n0
  have K0 : Keep h0 h0 [] := Keep.refl h0 _
  have pre0 : ∀ t, Steps p.tables e below (s₁.setTop (mkF m 0 #[.val (.ref a1), .val (.ref a2), .unset] [])) t → Steps p.tables e below (s₁.setTop (entryFrame m #[(.ref a1), (.ref a2)] 3)) t := fun t k => castTop (own_ef_rmLE_02 m a1 a2) k
  obtain ⟨cl124, Ar124, q124, S124, M124, H124, G124⟩ := id V_a1
  obtain ⟨cl125, Ar125, q125, S125, M125, H125, G125⟩ := id V_a2
  obtain ⟨fs, hr, hrun, hended, hW, hsame⟩ := X0.leave (v := some (.int (0 : Int32))) (fun h => by rw [Bd.returns] at h; cases h)
  refine ⟨_, _, pre0 _ ?_, hrun, hended, _, _, rfl, ?_, ⟨_, rfl⟩, hW, hsame.mono (by decide) (by decide)⟩
  · show Steps p.tables e below (s₁.setTop (mkF m 0 #[.val (.ref a1), .val (.ref a2), .unset] [])) _
    refine XS.aloadN X0.here hx rfl (hb hby own_d9_0) rfl rfl ?_
    show Steps p.tables e below (s₁.setTop (mkF m 1 #[.val (.ref a1), .val (.ref a2), .unset] [(.ref a1)])) _
    refine X0.arraylength hx (by rw [e0]; exact Ar124.1) (State.isArrayOf_alike hZ.alike Ar124.2.1) (g := (mkF m 1 #[.val (.ref a1), .val (.ref a2), .unset] [(.ref a1)])) rfl rfl (hb hby own_d9_1) _ ?_
    rw [len_of S124 M124]
    show Steps p.tables e below (s₁.setTop (mkF m 2 #[.val (.ref a1), .val (.ref a2), .unset] [(.int (0 : Int32))])) _
    refine XS.aloadN X0.here hx rfl (hb hby own_d9_2) rfl rfl ?_
    show Steps p.tables e below (s₁.setTop (mkF m 3 #[.val (.ref a1), .val (.ref a2), .unset] [(.ref a2), (.int (0 : Int32))])) _
    refine X0.arraylength hx (by rw [e0]; exact Ar125.1) (State.isArrayOf_alike hZ.alike Ar125.2.1) (g := (mkF m 3 #[.val (.ref a1), .val (.ref a2), .unset] [(.ref a2), (.int (0 : Int32))])) rfl rfl (hb hby own_d9_3) _ ?_
    rw [len_of S125 M125]
    show Steps p.tables e below (s₁.setTop (mkF m 4 #[.val (.ref a1), .val (.ref a2), .unset] [(.int (2 : Int32)), (.int (0 : Int32))])) _
    refine XS.icmpYes X0.here hx rfl (pc0 := 4) (pc' := 34) rfl (hb hby own_d9_4) rfl (feq (by decide : ¬ ((0 : Int32) = (2 : Int32)))).2 (by decide) (by decide) ?_
    show Steps p.tables e below (s₁.setTop (mkF m 34 #[.val (.ref a1), .val (.ref a2), .unset] [])) _
    refine XS.iconst X0.here hx rfl (hb hby own_d9_34) ?_
    show Steps p.tables e below (s₁.setTop (mkF m 35 #[.val (.ref a1), .val (.ref a2), .unset] [(.int (0 : Int32))])) _
    exact retN X0 hx (t := .boolean) Bd.returns (by simp) (hb hby own_d9_35) hr
  · show QLE_02 Z a1 a2 k1 k2 v0 v1 h0 n0 _ s₁.heap _
    rw [e0]
    exact ⟨(congrArg (fun z => some (Value.int z)) (by simp [own_eqL] : (0 : Int32) = (own_eqL [] [v0, v1]))), N0, rfl⟩
theorem own_ef_rmSE_02 (m : MethodId) (a1 : Addr) (a2 : Addr) : entryFrame m #[(.ref a1), (.ref a2)] 3 = mkF m 0 #[.val (.ref a1), .val (.ref a2), .unset] [] := by first | (simp [entryFrame, mkF, argsToLocals, Value.category]; done) | rfl
def QSE_02 (Z : State) (a1 : Addr) (a2 : Addr) (cw : Int32) (b1 : Addr) (b2 : Addr) (k1 : ClassId) (k2 : ClassId) (v0 : Int32) (v1 : Int32) (h0 : Heap) (n0 : Nat) (v : Option Value) (h : Heap) (L : List Loc) : Prop := v = some (.int (own_eqL [] [v0, v1])) ∧ Fr n0 L ∧ h = h0
set_option maxRecDepth 65536 in
set_option maxHeartbeats 40000000 in
theorem rmSE_02 (l : Launch) (Z : State) (a0 : Array Value) (hw : ∀ d ∈ tables_1, d.before a0 Z = true) (ws : List Jvm.Cond) (a1 : Addr) (a2 : Addr) (cw : Int32) (b1 : Addr) (b2 : Addr) (k1 : ClassId) (k2 : ClassId) (v0 : Int32) (v1 : Int32) (h0 : Heap) (n0 : Nat) (Z0 : n0 ≤ h0.size) (E_a2 : Exa Z h0 a2 "java/lang/String") (F_a1_coder : Fld Z h0 a1 "java/lang/String" "coder" "B" (.int (0 : Int32))) (F_a1_value : Fld Z h0 a1 "java/lang/String" "value" "[B" (.ref b1)) (F_a2_coder : Fld Z h0 a2 "java/lang/String" "coder" "B" (.int (0 : Int32))) (F_a2_value : Fld Z h0 a2 "java/lang/String" "value" "[B" (.ref b2)) (V_b1 : Arv Z h0 b1 k1 .byte (0 : Int32) [] (.int (0 : Int32))) (V_b2 : Arv Z h0 b2 k2 .byte (2 : Int32) [(.int v0), (.int v1)] (.int (0 : Int32))) (S_COMPACT_STRINGS : Sta Z h0 "java/lang/String" "COMPACT_STRINGS" "Z" (.int cw)) (hw0 : ¬ (cw = (0 : Int32))) (ne_a1_a2 : a1 ≠ a2) :
    MetFree l (⟨"java/lang/String", "equals", "(Ljava/lang/Object;)Z"⟩ : MethodName) (head1 (Jvm.Cond.code (⟨"java/lang/String", "equals", "(Ljava/lang/Object;)Z"⟩ : MethodName) jdk_42_method_66_code 3 (some .boolean) :: ws) ({ frames := 1, cells := 0, slots := 0, locals := 14 } : Room)) (fun a U => a = #[(.ref a1), (.ref a2)] ∧ Z.Warmed39 U.vm ∧ U.heap = h0) (fun _ _ _ _ _ => True) (fun _ U o U' => ∃ v L, o = .returned v ∧ QSE_02 Z a1 a2 cw b1 b2 k1 k2 v0 v1 h0 n0 v U'.heap L ∧ FrameEnd U o U' L ({ frames := 1, cells := 0, slots := 0, locals := 14 } : Room).cells ({ frames := 1, cells := 0, slots := 0, locals := 14 } : Room).slots) := by
  refine MetFree.of_bodySF (plainFor_of_name own_pn1) hisR ?_
  intro p e s m args below meth c s₁ Bd hml0 hP hK
  obtain ⟨rfl, hZ, hh⟩ := hP
  have hx := Bd.exec
  have hby := Bd.bytes
  have hml : c.maxLocals = 3 := hml0
  have hown : s.vm.findClass "java/lang/String" = some m.cls := findClass_of_methodNamed Bd.named
  have hnm := (name_of_methodNamed Bd.named Bd.method).1
  have X0 : Stand p l e ({ frames := 1, cells := 0, slots := 0, locals := 14 } : Room) s m #[(.ref a1), (.ref a2)] below meth c s₁ [] 0 0 := Stand.of_body Bd
  have e0 : s₁.heap = h0 := by rw [← hh, Bd.state]; rfl
  have N0 := Fr.nil n0
  have K0 : Keep h0 h0 [] := Keep.refl h0 _
  have pre0 : ∀ t, Steps p.tables e below (s₁.setTop (mkF m 0 #[.val (.ref a1), .val (.ref a2), .unset] [])) t → Steps p.tables e below (s₁.setTop (entryFrame m #[(.ref a1), (.ref a2)] 3)) t := fun t k => castTop (own_ef_rmSE_02 m a1 a2) k
  obtain ⟨T126, X126, e126, st126⟩ := instY X0 hx hZ hown (hw _ (List.mem_of_getElem? (i := 52) rfl)) e0 (Ins.self E_a2) (g := (mkF m 8 #[.val (.ref a1), .val (.ref a2), .unset] [(.ref a2)])) rfl rfl (hb hby own_d8_8)
  obtain ⟨T127, X127, e127, st127⟩ := castY X126 hx hZ hown (hw _ (List.mem_of_getElem? (i := 52) rfl)) e126 (Ins.self E_a2) (g := (mkF m 15 #[.val (.ref a1), .val (.ref a2), .unset] [(.ref a2)])) rfl rfl (hb hby own_d8_15)
  obtain ⟨T128, X128, e128, st128⟩ := getS2 X127 hx hZ hown (host := "") (Or.inl (hw _ (List.mem_of_getElem? (i := 53) rfl))) Via.refl e127 S_COMPACT_STRINGS (g := (mkF m 19 #[.val (.ref a1), .val (.ref a2), .val (.ref a2)] [])) rfl (hb hby own_d8_19)
  have hc22_129 : ¬ (cw = (0 : Int32)) := hw0
  obtain ⟨T130, X130, e130, st130⟩ := getF X128 hx hZ hown (host := "") (Or.inl (hw _ (List.mem_of_getElem? (i := 28) rfl))) Via.refl e128 F_a1_coder (g := (mkF m 26 #[.val (.ref a1), .val (.ref a2), .val (.ref a2)] [(.ref a1)])) rfl rfl (hb hby own_d8_26)
  obtain ⟨T131, X131, e131, st131⟩ := getF X130 hx hZ hown (host := "") (Or.inl (hw _ (List.mem_of_getElem? (i := 28) rfl))) Via.refl e130 F_a2_coder (g := (mkF m 30 #[.val (.ref a1), .val (.ref a2), .val (.ref a2)] [(.ref a2), (.int (0 : Int32))])) rfl rfl (hb hby own_d8_30)
  obtain ⟨T132, X132, e132, st132⟩ := getF X131 hx hZ hown (host := "") (Or.inl (hw _ (List.mem_of_getElem? (i := 27) rfl))) Via.refl e131 F_a1_value (g := (mkF m 37 #[.val (.ref a1), .val (.ref a2), .val (.ref a2)] [(.ref a1)])) rfl rfl (hb hby own_d8_37)
  obtain ⟨T133, X133, e133, st133⟩ := getF X132 hx hZ hown (host := "") (Or.inl (hw _ (List.mem_of_getElem? (i := 27) rfl))) Via.refl e132 F_a2_value (g := (mkF m 41 #[.val (.ref a1), .val (.ref a2), .val (.ref a2)] [(.ref a2), (.ref b1)])) rfl rfl (hb hby own_d8_41)
  obtain ⟨_, _, ⟨T134, L134, k134, n134⟩, -, X134, ⟨Lc134, hQ134, l134, y134, z134⟩, st134⟩ := Jvm.LawKit.callS X133 hx (y := (⟨"java/lang/StringLatin1", "equals", "([B[B)Z"⟩ : MethodName)) hown (mvT hZ (hw _ (List.mem_of_getElem? (i := 54) rfl))) (mvT hZ (hw _ (List.mem_of_getElem? (i := 55) rfl))) (mvT hZ (hw _ (List.mem_of_getElem? (i := 56) rfl))) (mvT hZ (hw _ (List.mem_of_getElem? (i := 57) rfl))) (by decide) (backOf (W := 0) (rmLE_02 l Z a0 hw [] b1 b2 k1 k2 v0 v1 h0 n0 (Nat.le_trans Z0 K0.1) V_b1 V_b2) hZ (hw _ (List.mem_of_getElem? (i := 57) rfl)) (hw _ (List.mem_of_getElem? (i := 56) rfl)) (by decide) (by decide)) (g := (mkF m 44 #[.val (.ref a1), .val (.ref a2), .val (.ref a2)] [(.ref b2), (.ref b1)])) rfl (by rw [hml]; rfl) (argsL := [(.ref b1), (.ref b2)]) (rest := []) (lenOf own_pd5 rfl) rfl (by show 2 * 0 + _ ≤ _; exact Nat.le_of_eq rfl) (hb hby own_d8_44) (fun _ _ => ⟨rfl, e133, (by decide : 0 + 0 ≤ _), (by decide : 0 + 0 ≤ _)⟩)
  dsimp only [Pt.U, Pt.locs, Pt.cells, Pt.slots] at X134 l134 y134 z134 st134 hQ134
  subst l134 y134 z134
  obtain ⟨rfl, N134q, e134⟩ := hQ134
  have N134 := Fr.app N0 N134q
  have pre135 : ∀ t, Steps p.tables e below (T134.setTop (mkF m 47 #[.val (.ref a1), .val (.ref a2), .val (.ref a2)] [(.int (own_eqL [] [v0, v1]))])) t → Steps p.tables e below (s₁.setTop (entryFrame m #[(.ref a1), (.ref a2)] 3)) t := fun t k => by
    refine pre0 _ ?_
    show Steps p.tables e below (s₁.setTop (mkF m 0 #[.val (.ref a1), .val (.ref a2), .unset] [])) _
    refine XS.aloadN X0.here hx rfl (hb hby own_d8_0) rfl rfl ?_
    show Steps p.tables e below (s₁.setTop (mkF m 1 #[.val (.ref a1), .val (.ref a2), .unset] [(.ref a1)])) _
    refine XS.aloadN X0.here hx rfl (hb hby own_d8_1) rfl rfl ?_
    show Steps p.tables e below (s₁.setTop (mkF m 2 #[.val (.ref a1), .val (.ref a2), .unset] [(.ref a2), (.ref a1)])) _
    refine Jvm.RoadKit.acmp (g := (mkF m 2 #[.val (.ref a1), .val (.ref a2), .unset] [(.ref a2), (.ref a1)])) X0 hx rfl rfl rfl (pc0 := 2) (pc' := 7) (same := false) rfl (hb hby own_d8_2) rfl (decide_eq_false fun q => ne_a1_a2 (Value.ref.inj q)) (by decide) (by decide) ?_
    show Steps p.tables e below (s₁.setTop (mkF m 7 #[.val (.ref a1), .val (.ref a2), .unset] [])) _
    refine XS.aloadN X0.here hx rfl (hb hby own_d8_7) rfl rfl ?_
    show Steps p.tables e below (s₁.setTop (mkF m 8 #[.val (.ref a1), .val (.ref a2), .unset] [(.ref a2)])) _
    refine st126 _ ?_
    show Steps p.tables e below (T126.setTop (mkF m 11 #[.val (.ref a1), .val (.ref a2), .unset] [(.int (1 : Int32))])) _
    refine XS.ifNo X126.here hx rfl (hb hby own_d8_11) rfl ((if0 _ _).trans (feq (by decide : ¬ ((1 : Int32) = (0 : Int32)))).1) ?_
    show Steps p.tables e below (T126.setTop (mkF m 14 #[.val (.ref a1), .val (.ref a2), .unset] [])) _
    refine XS.aloadN X126.here hx rfl (hb hby own_d8_14) rfl rfl ?_
    show Steps p.tables e below (T126.setTop (mkF m 15 #[.val (.ref a1), .val (.ref a2), .unset] [(.ref a2)])) _
    refine st127 _ ?_
    show Steps p.tables e below (T127.setTop (mkF m 18 #[.val (.ref a1), .val (.ref a2), .unset] [(.ref a2)])) _
    refine XS.astoreN X127.here hx rfl (hb hby own_d8_18) rfl rfl (l' := #[.val (.ref a1), .val (.ref a2), .val (.ref a2)]) rfl ?_
    show Steps p.tables e below (T127.setTop (mkF m 19 #[.val (.ref a1), .val (.ref a2), .val (.ref a2)] [])) _
    refine st128 _ ?_
    show Steps p.tables e below (T128.setTop (mkF m 22 #[.val (.ref a1), .val (.ref a2), .val (.ref a2)] [(.int cw)])) _
    refine XS.ifNo X128.here hx rfl (hb hby own_d8_22) rfl ((if0 _ _).trans (feq hc22_129).1) ?_
    show Steps p.tables e below (T128.setTop (mkF m 25 #[.val (.ref a1), .val (.ref a2), .val (.ref a2)] [])) _
    refine XS.aloadN X128.here hx rfl (hb hby own_d8_25) rfl rfl ?_
    show Steps p.tables e below (T128.setTop (mkF m 26 #[.val (.ref a1), .val (.ref a2), .val (.ref a2)] [(.ref a1)])) _
    refine st130 _ ?_
    show Steps p.tables e below (T130.setTop (mkF m 29 #[.val (.ref a1), .val (.ref a2), .val (.ref a2)] [(.int (0 : Int32))])) _
    refine XS.aloadN X130.here hx rfl (hb hby own_d8_29) rfl rfl ?_
    show Steps p.tables e below (T130.setTop (mkF m 30 #[.val (.ref a1), .val (.ref a2), .val (.ref a2)] [(.ref a2), (.int (0 : Int32))])) _
    refine st131 _ ?_
    show Steps p.tables e below (T131.setTop (mkF m 33 #[.val (.ref a1), .val (.ref a2), .val (.ref a2)] [(.int (0 : Int32)), (.int (0 : Int32))])) _
    refine XS.icmpNo X131.here hx rfl (hb hby own_d8_33) rfl (teq (by decide : ((0 : Int32) = (0 : Int32)))).2 ?_
    show Steps p.tables e below (T131.setTop (mkF m 36 #[.val (.ref a1), .val (.ref a2), .val (.ref a2)] [])) _
    refine XS.aloadN X131.here hx rfl (hb hby own_d8_36) rfl rfl ?_
    show Steps p.tables e below (T131.setTop (mkF m 37 #[.val (.ref a1), .val (.ref a2), .val (.ref a2)] [(.ref a1)])) _
    refine st132 _ ?_
    show Steps p.tables e below (T132.setTop (mkF m 40 #[.val (.ref a1), .val (.ref a2), .val (.ref a2)] [(.ref b1)])) _
    refine XS.aloadN X132.here hx rfl (hb hby own_d8_40) rfl rfl ?_
    show Steps p.tables e below (T132.setTop (mkF m 41 #[.val (.ref a1), .val (.ref a2), .val (.ref a2)] [(.ref a2), (.ref b1)])) _
    refine st133 _ ?_
    show Steps p.tables e below (T133.setTop (mkF m 44 #[.val (.ref a1), .val (.ref a2), .val (.ref a2)] [(.ref b2), (.ref b1)])) _
    refine st134 _ ?_
    exact k
  by_cases hc47 : (own_eqL [] [v0, v1]) = (0 : Int32)
  · obtain ⟨fs, hr, hrun, hended, hW, hsame⟩ := X134.leave (v := some (.int (0 : Int32))) (fun h => by rw [Bd.returns] at h; cases h)
    refine ⟨_, _, pre135 _ ?_, hrun, hended, _, _, rfl, ?_, ⟨_, rfl⟩, hW, hsame.mono (by decide) (by decide)⟩
    · show Steps p.tables e below (T134.setTop (mkF m 47 #[.val (.ref a1), .val (.ref a2), .val (.ref a2)] [(.int (own_eqL [] [v0, v1]))])) _
      refine XS.ifYes X134.here hx rfl (pc0 := 47) (pc' := 54) rfl (hb hby own_d8_47) rfl ((if0 _ _).trans (teq hc47).1) (by decide) (by decide) ?_
      show Steps p.tables e below (T134.setTop (mkF m 54 #[.val (.ref a1), .val (.ref a2), .val (.ref a2)] [])) _
      refine XS.iconst X134.here hx rfl (hb hby own_d8_54) ?_
      show Steps p.tables e below (T134.setTop (mkF m 55 #[.val (.ref a1), .val (.ref a2), .val (.ref a2)] [(.int (0 : Int32))])) _
      exact retN X134 hx (t := .boolean) Bd.returns (by simp) (hb hby own_d8_55) hr
    · show QSE_02 Z a1 a2 cw b1 b2 k1 k2 v0 v1 h0 n0 _ T134.heap _
      rw [e134]
      exact ⟨(congrArg (fun z => some (Value.int z)) (hc47.symm : (0 : Int32) = (own_eqL [] [v0, v1]))), N134, rfl⟩
  · obtain ⟨fs, hr, hrun, hended, hW, hsame⟩ := X134.leave (v := some (.int (1 : Int32))) (fun h => by rw [Bd.returns] at h; cases h)
    refine ⟨_, _, pre135 _ ?_, hrun, hended, _, _, rfl, ?_, ⟨_, rfl⟩, hW, hsame.mono (by decide) (by decide)⟩
    · show Steps p.tables e below (T134.setTop (mkF m 47 #[.val (.ref a1), .val (.ref a2), .val (.ref a2)] [(.int (own_eqL [] [v0, v1]))])) _
      refine XS.ifNo X134.here hx rfl (hb hby own_d8_47) rfl ((if0 _ _).trans (feq hc47).1) ?_
      show Steps p.tables e below (T134.setTop (mkF m 50 #[.val (.ref a1), .val (.ref a2), .val (.ref a2)] [])) _
      refine XS.iconst X134.here hx rfl (hb hby own_d8_50) ?_
      show Steps p.tables e below (T134.setTop (mkF m 51 #[.val (.ref a1), .val (.ref a2), .val (.ref a2)] [(.int (1 : Int32))])) _
      refine XS.goto X134.here hx rfl (pc0 := 51) (pc' := 55) rfl (hb hby own_d8_51) (by decide) (by decide) ?_
      show Steps p.tables e below (T134.setTop (mkF m 55 #[.val (.ref a1), .val (.ref a2), .val (.ref a2)] [(.int (1 : Int32))])) _
      exact retN X134 hx (t := .boolean) Bd.returns (by simp) (hb hby own_d8_55) hr
    · show QSE_02 Z a1 a2 cw b1 b2 k1 k2 v0 v1 h0 n0 _ T134.heap _
      rw [e134]
      exact ⟨(congrArg (fun z => some (Value.int z)) ((own_eqL1 hc47).symm : (1 : Int32) = (own_eqL [] [v0, v1]))), N134, rfl⟩
theorem own_ef_rmLE_10 (m : MethodId) (a1 : Addr) (a2 : Addr) : entryFrame m #[(.ref a1), (.ref a2)] 3 = mkF m 0 #[.val (.ref a1), .val (.ref a2), .unset] [] := by first | (simp [entryFrame, mkF, argsToLocals, Value.category]; done) | rfl
def QLE_10 (Z : State) (a1 : Addr) (a2 : Addr) (k1 : ClassId) (k2 : ClassId) (u0 : Int32) (h0 : Heap) (n0 : Nat) (v : Option Value) (h : Heap) (L : List Loc) : Prop := v = some (.int (own_eqL [u0] [])) ∧ Fr n0 L ∧ h = h0
set_option maxRecDepth 65536 in
set_option maxHeartbeats 40000000 in
theorem rmLE_10 (l : Launch) (Z : State) (a0 : Array Value) (hw : ∀ d ∈ tables_1, d.before a0 Z = true) (ws : List Jvm.Cond) (a1 : Addr) (a2 : Addr) (k1 : ClassId) (k2 : ClassId) (u0 : Int32) (h0 : Heap) (n0 : Nat) (Z0 : n0 ≤ h0.size) (V_a1 : Arv Z h0 a1 k1 .byte (1 : Int32) [(.int u0)] (.int (0 : Int32))) (V_a2 : Arv Z h0 a2 k2 .byte (0 : Int32) [] (.int (0 : Int32))) :
    MetFree l (⟨"java/lang/StringLatin1", "equals", "([B[B)Z"⟩ : MethodName) (head1 (Jvm.Cond.code (⟨"java/lang/StringLatin1", "equals", "([B[B)Z"⟩ : MethodName) jdk_43_method_13_code 3 (some .boolean) :: ws) ({ frames := 0, cells := 0, slots := 0, locals := 0 } : Room)) (fun a U => a = #[(.ref a1), (.ref a2)] ∧ Z.Warmed39 U.vm ∧ U.heap = h0) (fun _ _ _ _ _ => True) (fun _ U o U' => ∃ v L, o = .returned v ∧ QLE_10 Z a1 a2 k1 k2 u0 h0 n0 v U'.heap L ∧ FrameEnd U o U' L ({ frames := 0, cells := 0, slots := 0, locals := 0 } : Room).cells ({ frames := 0, cells := 0, slots := 0, locals := 0 } : Room).slots) := by
  refine MetFree.of_bodySF (plainFor_of_name own_pn3) hisR ?_
  intro p e s m args below meth c s₁ Bd hml0 hP hK
  obtain ⟨rfl, hZ, hh⟩ := hP
  have hx := Bd.exec
  have hby := Bd.bytes
  have hml : c.maxLocals = 3 := hml0
  have hown : s.vm.findClass "java/lang/StringLatin1" = some m.cls := findClass_of_methodNamed Bd.named
  have hnm := (name_of_methodNamed Bd.named Bd.method).1
  have X0 : Stand p l e ({ frames := 0, cells := 0, slots := 0, locals := 0 } : Room) s m #[(.ref a1), (.ref a2)] below meth c s₁ [] 0 0 := Stand.of_body Bd
  have e0 : s₁.heap = h0 := by rw [← hh, Bd.state]; rfl
  have N0 := Fr.nil n0
  have K0 : Keep h0 h0 [] := Keep.refl h0 _
  have pre0 : ∀ t, Steps p.tables e below (s₁.setTop (mkF m 0 #[.val (.ref a1), .val (.ref a2), .unset] [])) t → Steps p.tables e below (s₁.setTop (entryFrame m #[(.ref a1), (.ref a2)] 3)) t := fun t k => castTop (own_ef_rmLE_10 m a1 a2) k
  obtain ⟨cl136, Ar136, q136, S136, M136, H136, G136⟩ := id V_a1
  obtain ⟨cl137, Ar137, q137, S137, M137, H137, G137⟩ := id V_a2
  obtain ⟨fs, hr, hrun, hended, hW, hsame⟩ := X0.leave (v := some (.int (0 : Int32))) (fun h => by rw [Bd.returns] at h; cases h)
  refine ⟨_, _, pre0 _ ?_, hrun, hended, _, _, rfl, ?_, ⟨_, rfl⟩, hW, hsame.mono (by decide) (by decide)⟩
  · show Steps p.tables e below (s₁.setTop (mkF m 0 #[.val (.ref a1), .val (.ref a2), .unset] [])) _
    refine XS.aloadN X0.here hx rfl (hb hby own_d9_0) rfl rfl ?_
    show Steps p.tables e below (s₁.setTop (mkF m 1 #[.val (.ref a1), .val (.ref a2), .unset] [(.ref a1)])) _
    refine X0.arraylength hx (by rw [e0]; exact Ar136.1) (State.isArrayOf_alike hZ.alike Ar136.2.1) (g := (mkF m 1 #[.val (.ref a1), .val (.ref a2), .unset] [(.ref a1)])) rfl rfl (hb hby own_d9_1) _ ?_
    rw [len_of S136 M136]
    show Steps p.tables e below (s₁.setTop (mkF m 2 #[.val (.ref a1), .val (.ref a2), .unset] [(.int (1 : Int32))])) _
    refine XS.aloadN X0.here hx rfl (hb hby own_d9_2) rfl rfl ?_
    show Steps p.tables e below (s₁.setTop (mkF m 3 #[.val (.ref a1), .val (.ref a2), .unset] [(.ref a2), (.int (1 : Int32))])) _
    refine X0.arraylength hx (by rw [e0]; exact Ar137.1) (State.isArrayOf_alike hZ.alike Ar137.2.1) (g := (mkF m 3 #[.val (.ref a1), .val (.ref a2), .unset] [(.ref a2), (.int (1 : Int32))])) rfl rfl (hb hby own_d9_3) _ ?_
    rw [len_of S137 M137]
    show Steps p.tables e below (s₁.setTop (mkF m 4 #[.val (.ref a1), .val (.ref a2), .unset] [(.int (0 : Int32)), (.int (1 : Int32))])) _
    refine XS.icmpYes X0.here hx rfl (pc0 := 4) (pc' := 34) rfl (hb hby own_d9_4) rfl (feq (by decide : ¬ ((1 : Int32) = (0 : Int32)))).2 (by decide) (by decide) ?_
    show Steps p.tables e below (s₁.setTop (mkF m 34 #[.val (.ref a1), .val (.ref a2), .unset] [])) _
    refine XS.iconst X0.here hx rfl (hb hby own_d9_34) ?_
    show Steps p.tables e below (s₁.setTop (mkF m 35 #[.val (.ref a1), .val (.ref a2), .unset] [(.int (0 : Int32))])) _
    exact retN X0 hx (t := .boolean) Bd.returns (by simp) (hb hby own_d9_35) hr
  · show QLE_10 Z a1 a2 k1 k2 u0 h0 n0 _ s₁.heap _
    rw [e0]
    exact ⟨(congrArg (fun z => some (Value.int z)) (by simp [own_eqL] : (0 : Int32) = (own_eqL [u0] []))), N0, rfl⟩
theorem own_ef_rmSE_10 (m : MethodId) (a1 : Addr) (a2 : Addr) : entryFrame m #[(.ref a1), (.ref a2)] 3 = mkF m 0 #[.val (.ref a1), .val (.ref a2), .unset] [] := by first | (simp [entryFrame, mkF, argsToLocals, Value.category]; done) | rfl
def QSE_10 (Z : State) (a1 : Addr) (a2 : Addr) (cw : Int32) (b1 : Addr) (b2 : Addr) (k1 : ClassId) (k2 : ClassId) (u0 : Int32) (h0 : Heap) (n0 : Nat) (v : Option Value) (h : Heap) (L : List Loc) : Prop := v = some (.int (own_eqL [u0] [])) ∧ Fr n0 L ∧ h = h0
set_option maxRecDepth 65536 in
set_option maxHeartbeats 40000000 in
theorem rmSE_10 (l : Launch) (Z : State) (a0 : Array Value) (hw : ∀ d ∈ tables_1, d.before a0 Z = true) (ws : List Jvm.Cond) (a1 : Addr) (a2 : Addr) (cw : Int32) (b1 : Addr) (b2 : Addr) (k1 : ClassId) (k2 : ClassId) (u0 : Int32) (h0 : Heap) (n0 : Nat) (Z0 : n0 ≤ h0.size) (E_a2 : Exa Z h0 a2 "java/lang/String") (F_a1_coder : Fld Z h0 a1 "java/lang/String" "coder" "B" (.int (0 : Int32))) (F_a1_value : Fld Z h0 a1 "java/lang/String" "value" "[B" (.ref b1)) (F_a2_coder : Fld Z h0 a2 "java/lang/String" "coder" "B" (.int (0 : Int32))) (F_a2_value : Fld Z h0 a2 "java/lang/String" "value" "[B" (.ref b2)) (V_b1 : Arv Z h0 b1 k1 .byte (1 : Int32) [(.int u0)] (.int (0 : Int32))) (V_b2 : Arv Z h0 b2 k2 .byte (0 : Int32) [] (.int (0 : Int32))) (S_COMPACT_STRINGS : Sta Z h0 "java/lang/String" "COMPACT_STRINGS" "Z" (.int cw)) (hw0 : ¬ (cw = (0 : Int32))) (ne_a1_a2 : a1 ≠ a2) :
    MetFree l (⟨"java/lang/String", "equals", "(Ljava/lang/Object;)Z"⟩ : MethodName) (head1 (Jvm.Cond.code (⟨"java/lang/String", "equals", "(Ljava/lang/Object;)Z"⟩ : MethodName) jdk_42_method_66_code 3 (some .boolean) :: ws) ({ frames := 1, cells := 0, slots := 0, locals := 14 } : Room)) (fun a U => a = #[(.ref a1), (.ref a2)] ∧ Z.Warmed39 U.vm ∧ U.heap = h0) (fun _ _ _ _ _ => True) (fun _ U o U' => ∃ v L, o = .returned v ∧ QSE_10 Z a1 a2 cw b1 b2 k1 k2 u0 h0 n0 v U'.heap L ∧ FrameEnd U o U' L ({ frames := 1, cells := 0, slots := 0, locals := 14 } : Room).cells ({ frames := 1, cells := 0, slots := 0, locals := 14 } : Room).slots) := by
  refine MetFree.of_bodySF (plainFor_of_name own_pn1) hisR ?_
  intro p e s m args below meth c s₁ Bd hml0 hP hK
  obtain ⟨rfl, hZ, hh⟩ := hP
  have hx := Bd.exec
  have hby := Bd.bytes
  have hml : c.maxLocals = 3 := hml0
  have hown : s.vm.findClass "java/lang/String" = some m.cls := findClass_of_methodNamed Bd.named
  have hnm := (name_of_methodNamed Bd.named Bd.method).1
  have X0 : Stand p l e ({ frames := 1, cells := 0, slots := 0, locals := 14 } : Room) s m #[(.ref a1), (.ref a2)] below meth c s₁ [] 0 0 := Stand.of_body Bd
  have e0 : s₁.heap = h0 := by rw [← hh, Bd.state]; rfl
  have N0 := Fr.nil n0
  have K0 : Keep h0 h0 [] := Keep.refl h0 _
  have pre0 : ∀ t, Steps p.tables e below (s₁.setTop (mkF m 0 #[.val (.ref a1), .val (.ref a2), .unset] [])) t → Steps p.tables e below (s₁.setTop (entryFrame m #[(.ref a1), (.ref a2)] 3)) t := fun t k => castTop (own_ef_rmSE_10 m a1 a2) k
  obtain ⟨T138, X138, e138, st138⟩ := instY X0 hx hZ hown (hw _ (List.mem_of_getElem? (i := 52) rfl)) e0 (Ins.self E_a2) (g := (mkF m 8 #[.val (.ref a1), .val (.ref a2), .unset] [(.ref a2)])) rfl rfl (hb hby own_d8_8)
  obtain ⟨T139, X139, e139, st139⟩ := castY X138 hx hZ hown (hw _ (List.mem_of_getElem? (i := 52) rfl)) e138 (Ins.self E_a2) (g := (mkF m 15 #[.val (.ref a1), .val (.ref a2), .unset] [(.ref a2)])) rfl rfl (hb hby own_d8_15)
  obtain ⟨T140, X140, e140, st140⟩ := getS2 X139 hx hZ hown (host := "") (Or.inl (hw _ (List.mem_of_getElem? (i := 53) rfl))) Via.refl e139 S_COMPACT_STRINGS (g := (mkF m 19 #[.val (.ref a1), .val (.ref a2), .val (.ref a2)] [])) rfl (hb hby own_d8_19)
  have hc22_141 : ¬ (cw = (0 : Int32)) := hw0
  obtain ⟨T142, X142, e142, st142⟩ := getF X140 hx hZ hown (host := "") (Or.inl (hw _ (List.mem_of_getElem? (i := 28) rfl))) Via.refl e140 F_a1_coder (g := (mkF m 26 #[.val (.ref a1), .val (.ref a2), .val (.ref a2)] [(.ref a1)])) rfl rfl (hb hby own_d8_26)
  obtain ⟨T143, X143, e143, st143⟩ := getF X142 hx hZ hown (host := "") (Or.inl (hw _ (List.mem_of_getElem? (i := 28) rfl))) Via.refl e142 F_a2_coder (g := (mkF m 30 #[.val (.ref a1), .val (.ref a2), .val (.ref a2)] [(.ref a2), (.int (0 : Int32))])) rfl rfl (hb hby own_d8_30)
  obtain ⟨T144, X144, e144, st144⟩ := getF X143 hx hZ hown (host := "") (Or.inl (hw _ (List.mem_of_getElem? (i := 27) rfl))) Via.refl e143 F_a1_value (g := (mkF m 37 #[.val (.ref a1), .val (.ref a2), .val (.ref a2)] [(.ref a1)])) rfl rfl (hb hby own_d8_37)
  obtain ⟨T145, X145, e145, st145⟩ := getF X144 hx hZ hown (host := "") (Or.inl (hw _ (List.mem_of_getElem? (i := 27) rfl))) Via.refl e144 F_a2_value (g := (mkF m 41 #[.val (.ref a1), .val (.ref a2), .val (.ref a2)] [(.ref a2), (.ref b1)])) rfl rfl (hb hby own_d8_41)
  obtain ⟨_, _, ⟨T146, L146, k146, n146⟩, -, X146, ⟨Lc146, hQ146, l146, y146, z146⟩, st146⟩ := Jvm.LawKit.callS X145 hx (y := (⟨"java/lang/StringLatin1", "equals", "([B[B)Z"⟩ : MethodName)) hown (mvT hZ (hw _ (List.mem_of_getElem? (i := 54) rfl))) (mvT hZ (hw _ (List.mem_of_getElem? (i := 55) rfl))) (mvT hZ (hw _ (List.mem_of_getElem? (i := 56) rfl))) (mvT hZ (hw _ (List.mem_of_getElem? (i := 57) rfl))) (by decide) (backOf (W := 0) (rmLE_10 l Z a0 hw [] b1 b2 k1 k2 u0 h0 n0 (Nat.le_trans Z0 K0.1) V_b1 V_b2) hZ (hw _ (List.mem_of_getElem? (i := 57) rfl)) (hw _ (List.mem_of_getElem? (i := 56) rfl)) (by decide) (by decide)) (g := (mkF m 44 #[.val (.ref a1), .val (.ref a2), .val (.ref a2)] [(.ref b2), (.ref b1)])) rfl (by rw [hml]; rfl) (argsL := [(.ref b1), (.ref b2)]) (rest := []) (lenOf own_pd5 rfl) rfl (by show 2 * 0 + _ ≤ _; exact Nat.le_of_eq rfl) (hb hby own_d8_44) (fun _ _ => ⟨rfl, e145, (by decide : 0 + 0 ≤ _), (by decide : 0 + 0 ≤ _)⟩)
  dsimp only [Pt.U, Pt.locs, Pt.cells, Pt.slots] at X146 l146 y146 z146 st146 hQ146
  subst l146 y146 z146
  obtain ⟨rfl, N146q, e146⟩ := hQ146
  have N146 := Fr.app N0 N146q
  have pre147 : ∀ t, Steps p.tables e below (T146.setTop (mkF m 47 #[.val (.ref a1), .val (.ref a2), .val (.ref a2)] [(.int (own_eqL [u0] []))])) t → Steps p.tables e below (s₁.setTop (entryFrame m #[(.ref a1), (.ref a2)] 3)) t := fun t k => by
    refine pre0 _ ?_
    show Steps p.tables e below (s₁.setTop (mkF m 0 #[.val (.ref a1), .val (.ref a2), .unset] [])) _
    refine XS.aloadN X0.here hx rfl (hb hby own_d8_0) rfl rfl ?_
    show Steps p.tables e below (s₁.setTop (mkF m 1 #[.val (.ref a1), .val (.ref a2), .unset] [(.ref a1)])) _
    refine XS.aloadN X0.here hx rfl (hb hby own_d8_1) rfl rfl ?_
    show Steps p.tables e below (s₁.setTop (mkF m 2 #[.val (.ref a1), .val (.ref a2), .unset] [(.ref a2), (.ref a1)])) _
    refine Jvm.RoadKit.acmp (g := (mkF m 2 #[.val (.ref a1), .val (.ref a2), .unset] [(.ref a2), (.ref a1)])) X0 hx rfl rfl rfl (pc0 := 2) (pc' := 7) (same := false) rfl (hb hby own_d8_2) rfl (decide_eq_false fun q => ne_a1_a2 (Value.ref.inj q)) (by decide) (by decide) ?_
    show Steps p.tables e below (s₁.setTop (mkF m 7 #[.val (.ref a1), .val (.ref a2), .unset] [])) _
    refine XS.aloadN X0.here hx rfl (hb hby own_d8_7) rfl rfl ?_
    show Steps p.tables e below (s₁.setTop (mkF m 8 #[.val (.ref a1), .val (.ref a2), .unset] [(.ref a2)])) _
    refine st138 _ ?_
    show Steps p.tables e below (T138.setTop (mkF m 11 #[.val (.ref a1), .val (.ref a2), .unset] [(.int (1 : Int32))])) _
    refine XS.ifNo X138.here hx rfl (hb hby own_d8_11) rfl ((if0 _ _).trans (feq (by decide : ¬ ((1 : Int32) = (0 : Int32)))).1) ?_
    show Steps p.tables e below (T138.setTop (mkF m 14 #[.val (.ref a1), .val (.ref a2), .unset] [])) _
    refine XS.aloadN X138.here hx rfl (hb hby own_d8_14) rfl rfl ?_
    show Steps p.tables e below (T138.setTop (mkF m 15 #[.val (.ref a1), .val (.ref a2), .unset] [(.ref a2)])) _
    refine st139 _ ?_
    show Steps p.tables e below (T139.setTop (mkF m 18 #[.val (.ref a1), .val (.ref a2), .unset] [(.ref a2)])) _
    refine XS.astoreN X139.here hx rfl (hb hby own_d8_18) rfl rfl (l' := #[.val (.ref a1), .val (.ref a2), .val (.ref a2)]) rfl ?_
    show Steps p.tables e below (T139.setTop (mkF m 19 #[.val (.ref a1), .val (.ref a2), .val (.ref a2)] [])) _
    refine st140 _ ?_
    show Steps p.tables e below (T140.setTop (mkF m 22 #[.val (.ref a1), .val (.ref a2), .val (.ref a2)] [(.int cw)])) _
    refine XS.ifNo X140.here hx rfl (hb hby own_d8_22) rfl ((if0 _ _).trans (feq hc22_141).1) ?_
    show Steps p.tables e below (T140.setTop (mkF m 25 #[.val (.ref a1), .val (.ref a2), .val (.ref a2)] [])) _
    refine XS.aloadN X140.here hx rfl (hb hby own_d8_25) rfl rfl ?_
    show Steps p.tables e below (T140.setTop (mkF m 26 #[.val (.ref a1), .val (.ref a2), .val (.ref a2)] [(.ref a1)])) _
    refine st142 _ ?_
    show Steps p.tables e below (T142.setTop (mkF m 29 #[.val (.ref a1), .val (.ref a2), .val (.ref a2)] [(.int (0 : Int32))])) _
    refine XS.aloadN X142.here hx rfl (hb hby own_d8_29) rfl rfl ?_
    show Steps p.tables e below (T142.setTop (mkF m 30 #[.val (.ref a1), .val (.ref a2), .val (.ref a2)] [(.ref a2), (.int (0 : Int32))])) _
    refine st143 _ ?_
    show Steps p.tables e below (T143.setTop (mkF m 33 #[.val (.ref a1), .val (.ref a2), .val (.ref a2)] [(.int (0 : Int32)), (.int (0 : Int32))])) _
    refine XS.icmpNo X143.here hx rfl (hb hby own_d8_33) rfl (teq (by decide : ((0 : Int32) = (0 : Int32)))).2 ?_
    show Steps p.tables e below (T143.setTop (mkF m 36 #[.val (.ref a1), .val (.ref a2), .val (.ref a2)] [])) _
    refine XS.aloadN X143.here hx rfl (hb hby own_d8_36) rfl rfl ?_
    show Steps p.tables e below (T143.setTop (mkF m 37 #[.val (.ref a1), .val (.ref a2), .val (.ref a2)] [(.ref a1)])) _
    refine st144 _ ?_
    show Steps p.tables e below (T144.setTop (mkF m 40 #[.val (.ref a1), .val (.ref a2), .val (.ref a2)] [(.ref b1)])) _
    refine XS.aloadN X144.here hx rfl (hb hby own_d8_40) rfl rfl ?_
    show Steps p.tables e below (T144.setTop (mkF m 41 #[.val (.ref a1), .val (.ref a2), .val (.ref a2)] [(.ref a2), (.ref b1)])) _
    refine st145 _ ?_
    show Steps p.tables e below (T145.setTop (mkF m 44 #[.val (.ref a1), .val (.ref a2), .val (.ref a2)] [(.ref b2), (.ref b1)])) _
    refine st146 _ ?_
    exact k
  by_cases hc47 : (own_eqL [u0] []) = (0 : Int32)
  · obtain ⟨fs, hr, hrun, hended, hW, hsame⟩ := X146.leave (v := some (.int (0 : Int32))) (fun h => by rw [Bd.returns] at h; cases h)
    refine ⟨_, _, pre147 _ ?_, hrun, hended, _, _, rfl, ?_, ⟨_, rfl⟩, hW, hsame.mono (by decide) (by decide)⟩
    · show Steps p.tables e below (T146.setTop (mkF m 47 #[.val (.ref a1), .val (.ref a2), .val (.ref a2)] [(.int (own_eqL [u0] []))])) _
      refine XS.ifYes X146.here hx rfl (pc0 := 47) (pc' := 54) rfl (hb hby own_d8_47) rfl ((if0 _ _).trans (teq hc47).1) (by decide) (by decide) ?_
      show Steps p.tables e below (T146.setTop (mkF m 54 #[.val (.ref a1), .val (.ref a2), .val (.ref a2)] [])) _
      refine XS.iconst X146.here hx rfl (hb hby own_d8_54) ?_
      show Steps p.tables e below (T146.setTop (mkF m 55 #[.val (.ref a1), .val (.ref a2), .val (.ref a2)] [(.int (0 : Int32))])) _
      exact retN X146 hx (t := .boolean) Bd.returns (by simp) (hb hby own_d8_55) hr
    · show QSE_10 Z a1 a2 cw b1 b2 k1 k2 u0 h0 n0 _ T146.heap _
      rw [e146]
      exact ⟨(congrArg (fun z => some (Value.int z)) (hc47.symm : (0 : Int32) = (own_eqL [u0] []))), N146, rfl⟩
  · obtain ⟨fs, hr, hrun, hended, hW, hsame⟩ := X146.leave (v := some (.int (1 : Int32))) (fun h => by rw [Bd.returns] at h; cases h)
    refine ⟨_, _, pre147 _ ?_, hrun, hended, _, _, rfl, ?_, ⟨_, rfl⟩, hW, hsame.mono (by decide) (by decide)⟩
    · show Steps p.tables e below (T146.setTop (mkF m 47 #[.val (.ref a1), .val (.ref a2), .val (.ref a2)] [(.int (own_eqL [u0] []))])) _
      refine XS.ifNo X146.here hx rfl (hb hby own_d8_47) rfl ((if0 _ _).trans (feq hc47).1) ?_
      show Steps p.tables e below (T146.setTop (mkF m 50 #[.val (.ref a1), .val (.ref a2), .val (.ref a2)] [])) _
      refine XS.iconst X146.here hx rfl (hb hby own_d8_50) ?_
      show Steps p.tables e below (T146.setTop (mkF m 51 #[.val (.ref a1), .val (.ref a2), .val (.ref a2)] [(.int (1 : Int32))])) _
      refine XS.goto X146.here hx rfl (pc0 := 51) (pc' := 55) rfl (hb hby own_d8_51) (by decide) (by decide) ?_
      show Steps p.tables e below (T146.setTop (mkF m 55 #[.val (.ref a1), .val (.ref a2), .val (.ref a2)] [(.int (1 : Int32))])) _
      exact retN X146 hx (t := .boolean) Bd.returns (by simp) (hb hby own_d8_55) hr
    · show QSE_10 Z a1 a2 cw b1 b2 k1 k2 u0 h0 n0 _ T146.heap _
      rw [e146]
      exact ⟨(congrArg (fun z => some (Value.int z)) ((own_eqL1 hc47).symm : (1 : Int32) = (own_eqL [u0] []))), N146, rfl⟩
theorem own_d9_15 : decode jdk_43_method_13_code 15 = .ok (.aload_n 0, 1) := by decide +kernel
theorem own_d9_16 : decode jdk_43_method_13_code 16 = .ok (.iload_n 2, 1) := by decide +kernel
theorem own_d9_17 : decode jdk_43_method_13_code 17 = .ok (.baload, 1) := by decide +kernel
theorem own_d9_18 : decode jdk_43_method_13_code 18 = .ok (.aload_n 1, 1) := by decide +kernel
theorem own_d9_19 : decode jdk_43_method_13_code 19 = .ok (.iload_n 2, 1) := by decide +kernel
theorem own_d9_20 : decode jdk_43_method_13_code 20 = .ok (.baload, 1) := by decide +kernel
theorem own_d9_21 : decode jdk_43_method_13_code 21 = .ok (.if_icmp .eq 5, 3) := by decide +kernel
theorem own_d9_26 : decode jdk_43_method_13_code 26 = .ok (.iinc 2 1, 3) := by decide +kernel
theorem own_d9_29 : decode jdk_43_method_13_code 29 = .ok (.goto (-20), 3) := by decide +kernel
theorem own_d9_24 : decode jdk_43_method_13_code 24 = .ok (.iconst 0, 1) := by decide +kernel
theorem own_d9_25 : decode jdk_43_method_13_code 25 = .ok (.ireturn, 1) := by decide +kernel
theorem own_ef_rmLE_11 (m : MethodId) (a1 : Addr) (a2 : Addr) : entryFrame m #[(.ref a1), (.ref a2)] 3 = mkF m 0 #[.val (.ref a1), .val (.ref a2), .unset] [] := by first | (simp [entryFrame, mkF, argsToLocals, Value.category]; done) | rfl
def QLE_11 (Z : State) (a1 : Addr) (a2 : Addr) (k1 : ClassId) (k2 : ClassId) (u0 : Int32) (v0 : Int32) (h0 : Heap) (n0 : Nat) (v : Option Value) (h : Heap) (L : List Loc) : Prop := v = some (.int (own_eqL [u0] [v0])) ∧ Fr n0 L ∧ h = h0
set_option maxRecDepth 65536 in
set_option maxHeartbeats 40000000 in
theorem rmLE_11 (l : Launch) (Z : State) (a0 : Array Value) (hw : ∀ d ∈ tables_1, d.before a0 Z = true) (ws : List Jvm.Cond) (a1 : Addr) (a2 : Addr) (k1 : ClassId) (k2 : ClassId) (u0 : Int32) (v0 : Int32) (h0 : Heap) (n0 : Nat) (Z0 : n0 ≤ h0.size) (V_a1 : Arv Z h0 a1 k1 .byte (1 : Int32) [(.int u0)] (.int (0 : Int32))) (V_a2 : Arv Z h0 a2 k2 .byte (1 : Int32) [(.int v0)] (.int (0 : Int32))) :
    MetFree l (⟨"java/lang/StringLatin1", "equals", "([B[B)Z"⟩ : MethodName) (head1 (Jvm.Cond.code (⟨"java/lang/StringLatin1", "equals", "([B[B)Z"⟩ : MethodName) jdk_43_method_13_code 3 (some .boolean) :: ws) ({ frames := 0, cells := 0, slots := 0, locals := 0 } : Room)) (fun a U => a = #[(.ref a1), (.ref a2)] ∧ Z.Warmed39 U.vm ∧ U.heap = h0) (fun _ _ _ _ _ => True) (fun _ U o U' => ∃ v L, o = .returned v ∧ QLE_11 Z a1 a2 k1 k2 u0 v0 h0 n0 v U'.heap L ∧ FrameEnd U o U' L ({ frames := 0, cells := 0, slots := 0, locals := 0 } : Room).cells ({ frames := 0, cells := 0, slots := 0, locals := 0 } : Room).slots) := by
  refine MetFree.of_bodySF (plainFor_of_name own_pn3) hisR ?_
  intro p e s m args below meth c s₁ Bd hml0 hP hK
  obtain ⟨rfl, hZ, hh⟩ := hP
  have hx := Bd.exec
  have hby := Bd.bytes
  have hml : c.maxLocals = 3 := hml0
  have hown : s.vm.findClass "java/lang/StringLatin1" = some m.cls := findClass_of_methodNamed Bd.named
  have hnm := (name_of_methodNamed Bd.named Bd.method).1
  have X0 : Stand p l e ({ frames := 0, cells := 0, slots := 0, locals := 0 } : Room) s m #[(.ref a1), (.ref a2)] below meth c s₁ [] 0 0 := Stand.of_body Bd
  have e0 : s₁.heap = h0 := by rw [← hh, Bd.state]; rfl
  have N0 := Fr.nil n0
  have K0 : Keep h0 h0 [] := Keep.refl h0 _
  have pre0 : ∀ t, Steps p.tables e below (s₁.setTop (mkF m 0 #[.val (.ref a1), .val (.ref a2), .unset] [])) t → Steps p.tables e below (s₁.setTop (entryFrame m #[(.ref a1), (.ref a2)] 3)) t := fun t k => castTop (own_ef_rmLE_11 m a1 a2) k
  obtain ⟨cl148, Ar148, q148, S148, M148, H148, G148⟩ := id V_a1
  obtain ⟨cl149, Ar149, q149, S149, M149, H149, G149⟩ := id V_a2
  obtain ⟨cl150, Ar150, q150, S150, M150, H150, G150⟩ := id V_a1
  obtain ⟨cl151, Ar151, q151, S151, M151, H151, G151⟩ := id V_a1
  have hin151 : ¬ ((0 : Int32) < 0 ∨ cl151.slots.size ≤ ((0 : Int32)).toNatClampNeg) := inb_of S151 ⟨by decide, by decide⟩
  have hat151 : cl151.slots[((0 : Int32)).toNatClampNeg]? = some (.int u0) := Has.at H151 hin151 rfl
  obtain ⟨cl152, Ar152, q152, S152, M152, H152, G152⟩ := id V_a2
  have hin152 : ¬ ((0 : Int32) < 0 ∨ cl152.slots.size ≤ ((0 : Int32)).toNatClampNeg) := inb_of S152 ⟨by decide, by decide⟩
  have hat152 : cl152.slots[((0 : Int32)).toNatClampNeg]? = some (.int v0) := Has.at H152 hin152 rfl
  have pre153 : ∀ t, Steps p.tables e below (s₁.setTop (mkF m 21 #[.val (.ref a1), .val (.ref a2), .val (.int (0 : Int32))] [(.int v0), (.int u0)])) t → Steps p.tables e below (s₁.setTop (entryFrame m #[(.ref a1), (.ref a2)] 3)) t := fun t k => by
    refine pre0 _ ?_
    show Steps p.tables e below (s₁.setTop (mkF m 0 #[.val (.ref a1), .val (.ref a2), .unset] [])) _
    refine XS.aloadN X0.here hx rfl (hb hby own_d9_0) rfl rfl ?_
    show Steps p.tables e below (s₁.setTop (mkF m 1 #[.val (.ref a1), .val (.ref a2), .unset] [(.ref a1)])) _
    refine X0.arraylength hx (by rw [e0]; exact Ar148.1) (State.isArrayOf_alike hZ.alike Ar148.2.1) (g := (mkF m 1 #[.val (.ref a1), .val (.ref a2), .unset] [(.ref a1)])) rfl rfl (hb hby own_d9_1) _ ?_
    rw [len_of S148 M148]
    show Steps p.tables e below (s₁.setTop (mkF m 2 #[.val (.ref a1), .val (.ref a2), .unset] [(.int (1 : Int32))])) _
    refine XS.aloadN X0.here hx rfl (hb hby own_d9_2) rfl rfl ?_
    show Steps p.tables e below (s₁.setTop (mkF m 3 #[.val (.ref a1), .val (.ref a2), .unset] [(.ref a2), (.int (1 : Int32))])) _
    refine X0.arraylength hx (by rw [e0]; exact Ar149.1) (State.isArrayOf_alike hZ.alike Ar149.2.1) (g := (mkF m 3 #[.val (.ref a1), .val (.ref a2), .unset] [(.ref a2), (.int (1 : Int32))])) rfl rfl (hb hby own_d9_3) _ ?_
    rw [len_of S149 M149]
    show Steps p.tables e below (s₁.setTop (mkF m 4 #[.val (.ref a1), .val (.ref a2), .unset] [(.int (1 : Int32)), (.int (1 : Int32))])) _
    refine XS.icmpNo X0.here hx rfl (hb hby own_d9_4) rfl (teq (by decide : ((1 : Int32) = (1 : Int32)))).2 ?_
    show Steps p.tables e below (s₁.setTop (mkF m 7 #[.val (.ref a1), .val (.ref a2), .unset] [])) _
    refine XS.iconst X0.here hx rfl (hb hby own_d9_7) ?_
    show Steps p.tables e below (s₁.setTop (mkF m 8 #[.val (.ref a1), .val (.ref a2), .unset] [(.int (0 : Int32))])) _
    refine XS.istoreN X0.here hx rfl (hb hby own_d9_8) rfl (l' := #[.val (.ref a1), .val (.ref a2), .val (.int (0 : Int32))]) rfl ?_
    show Steps p.tables e below (s₁.setTop (mkF m 9 #[.val (.ref a1), .val (.ref a2), .val (.int (0 : Int32))] [])) _
    refine XS.iloadN X0.here hx rfl (hb hby own_d9_9) rfl ?_
    show Steps p.tables e below (s₁.setTop (mkF m 10 #[.val (.ref a1), .val (.ref a2), .val (.int (0 : Int32))] [(.int (0 : Int32))])) _
    refine XS.aloadN X0.here hx rfl (hb hby own_d9_10) rfl rfl ?_
    show Steps p.tables e below (s₁.setTop (mkF m 11 #[.val (.ref a1), .val (.ref a2), .val (.int (0 : Int32))] [(.ref a1), (.int (0 : Int32))])) _
    refine X0.arraylength hx (by rw [e0]; exact Ar150.1) (State.isArrayOf_alike hZ.alike Ar150.2.1) (g := (mkF m 11 #[.val (.ref a1), .val (.ref a2), .val (.int (0 : Int32))] [(.ref a1), (.int (0 : Int32))])) rfl rfl (hb hby own_d9_11) _ ?_
    rw [len_of S150 M150]
    show Steps p.tables e below (s₁.setTop (mkF m 12 #[.val (.ref a1), .val (.ref a2), .val (.int (0 : Int32))] [(.int (1 : Int32)), (.int (0 : Int32))])) _
    refine XS.icmpNo X0.here hx rfl (hb hby own_d9_12) rfl (tlt (by decide : ((0 : Int32) < (1 : Int32)))).2.1 ?_
    show Steps p.tables e below (s₁.setTop (mkF m 15 #[.val (.ref a1), .val (.ref a2), .val (.int (0 : Int32))] [])) _
    refine XS.aloadN X0.here hx rfl (hb hby own_d9_15) rfl rfl ?_
    show Steps p.tables e below (s₁.setTop (mkF m 16 #[.val (.ref a1), .val (.ref a2), .val (.int (0 : Int32))] [(.ref a1)])) _
    refine XS.iloadN X0.here hx rfl (hb hby own_d9_16) rfl ?_
    show Steps p.tables e below (s₁.setTop (mkF m 17 #[.val (.ref a1), .val (.ref a2), .val (.int (0 : Int32))] [(.int (0 : Int32)), (.ref a1)])) _
    refine X0.baloadBytes hx (j := (0 : Int32)) (v := (.int u0)) (by rw [e0]; exact Ar151.1) (State.isArrayOf_alike hZ.alike Ar151.2.1) Ar151.2.2 hin151 hat151 (g := (mkF m 17 #[.val (.ref a1), .val (.ref a2), .val (.int (0 : Int32))] [(.int (0 : Int32)), (.ref a1)])) rfl rfl (hb hby own_d9_17) _ ?_
    show Steps p.tables e below (s₁.setTop (mkF m 18 #[.val (.ref a1), .val (.ref a2), .val (.int (0 : Int32))] [(.int u0)])) _
    refine XS.aloadN X0.here hx rfl (hb hby own_d9_18) rfl rfl ?_
    show Steps p.tables e below (s₁.setTop (mkF m 19 #[.val (.ref a1), .val (.ref a2), .val (.int (0 : Int32))] [(.ref a2), (.int u0)])) _
    refine XS.iloadN X0.here hx rfl (hb hby own_d9_19) rfl ?_
    show Steps p.tables e below (s₁.setTop (mkF m 20 #[.val (.ref a1), .val (.ref a2), .val (.int (0 : Int32))] [(.int (0 : Int32)), (.ref a2), (.int u0)])) _
    refine X0.baloadBytes hx (j := (0 : Int32)) (v := (.int v0)) (by rw [e0]; exact Ar152.1) (State.isArrayOf_alike hZ.alike Ar152.2.1) Ar152.2.2 hin152 hat152 (g := (mkF m 20 #[.val (.ref a1), .val (.ref a2), .val (.int (0 : Int32))] [(.int (0 : Int32)), (.ref a2), (.int u0)])) rfl rfl (hb hby own_d9_20) _ ?_
    exact k
  by_cases hc21 : u0 = v0
  · obtain ⟨cl154, Ar154, q154, S154, M154, H154, G154⟩ := id V_a1
    obtain ⟨fs, hr, hrun, hended, hW, hsame⟩ := X0.leave (v := some (.int (1 : Int32))) (fun h => by rw [Bd.returns] at h; cases h)
    refine ⟨_, _, pre153 _ ?_, hrun, hended, _, _, rfl, ?_, ⟨_, rfl⟩, hW, hsame.mono (by decide) (by decide)⟩
    · show Steps p.tables e below (s₁.setTop (mkF m 21 #[.val (.ref a1), .val (.ref a2), .val (.int (0 : Int32))] [(.int v0), (.int u0)])) _
      refine XS.icmpYes X0.here hx rfl (pc0 := 21) (pc' := 26) rfl (hb hby own_d9_21) rfl (teq hc21).1 (by decide) (by decide) ?_
      show Steps p.tables e below (s₁.setTop (mkF m 26 #[.val (.ref a1), .val (.ref a2), .val (.int (0 : Int32))] [])) _
      refine XS.iinc X0.here hx rfl (hb hby own_d9_26) rfl (l' := #[.val (.ref a1), .val (.ref a2), .val (.int (1 : Int32))]) rfl ?_
      show Steps p.tables e below (s₁.setTop (mkF m 29 #[.val (.ref a1), .val (.ref a2), .val (.int (1 : Int32))] [])) _
      refine XS.goto X0.here hx rfl (pc0 := 29) (pc' := 9) rfl (hb hby own_d9_29) (by decide) (by decide) ?_
      show Steps p.tables e below (s₁.setTop (mkF m 9 #[.val (.ref a1), .val (.ref a2), .val (.int (1 : Int32))] [])) _
      refine XS.iloadN X0.here hx rfl (hb hby own_d9_9) rfl ?_
      show Steps p.tables e below (s₁.setTop (mkF m 10 #[.val (.ref a1), .val (.ref a2), .val (.int (1 : Int32))] [(.int (1 : Int32))])) _
      refine XS.aloadN X0.here hx rfl (hb hby own_d9_10) rfl rfl ?_
      show Steps p.tables e below (s₁.setTop (mkF m 11 #[.val (.ref a1), .val (.ref a2), .val (.int (1 : Int32))] [(.ref a1), (.int (1 : Int32))])) _
      refine X0.arraylength hx (by rw [e0]; exact Ar154.1) (State.isArrayOf_alike hZ.alike Ar154.2.1) (g := (mkF m 11 #[.val (.ref a1), .val (.ref a2), .val (.int (1 : Int32))] [(.ref a1), (.int (1 : Int32))])) rfl rfl (hb hby own_d9_11) _ ?_
      rw [len_of S154 M154]
      show Steps p.tables e below (s₁.setTop (mkF m 12 #[.val (.ref a1), .val (.ref a2), .val (.int (1 : Int32))] [(.int (1 : Int32)), (.int (1 : Int32))])) _
      refine XS.icmpYes X0.here hx rfl (pc0 := 12) (pc' := 32) rfl (hb hby own_d9_12) rfl (flt (by decide : ¬ ((1 : Int32) < (1 : Int32)))).2.1 (by decide) (by decide) ?_
      show Steps p.tables e below (s₁.setTop (mkF m 32 #[.val (.ref a1), .val (.ref a2), .val (.int (1 : Int32))] [])) _
      refine XS.iconst X0.here hx rfl (hb hby own_d9_32) ?_
      show Steps p.tables e below (s₁.setTop (mkF m 33 #[.val (.ref a1), .val (.ref a2), .val (.int (1 : Int32))] [(.int (1 : Int32))])) _
      exact retN X0 hx (t := .boolean) Bd.returns (by simp) (hb hby own_d9_33) hr
    · show QLE_11 Z a1 a2 k1 k2 u0 v0 h0 n0 _ s₁.heap _
      rw [e0]
      exact ⟨(congrArg (fun z => some (Value.int z)) (by simp [own_eqL, hc21] : (1 : Int32) = (own_eqL [u0] [v0]))), N0, rfl⟩
  · obtain ⟨fs, hr, hrun, hended, hW, hsame⟩ := X0.leave (v := some (.int (0 : Int32))) (fun h => by rw [Bd.returns] at h; cases h)
    refine ⟨_, _, pre153 _ ?_, hrun, hended, _, _, rfl, ?_, ⟨_, rfl⟩, hW, hsame.mono (by decide) (by decide)⟩
    · show Steps p.tables e below (s₁.setTop (mkF m 21 #[.val (.ref a1), .val (.ref a2), .val (.int (0 : Int32))] [(.int v0), (.int u0)])) _
      refine XS.icmpNo X0.here hx rfl (hb hby own_d9_21) rfl (feq hc21).1 ?_
      show Steps p.tables e below (s₁.setTop (mkF m 24 #[.val (.ref a1), .val (.ref a2), .val (.int (0 : Int32))] [])) _
      refine XS.iconst X0.here hx rfl (hb hby own_d9_24) ?_
      show Steps p.tables e below (s₁.setTop (mkF m 25 #[.val (.ref a1), .val (.ref a2), .val (.int (0 : Int32))] [(.int (0 : Int32))])) _
      exact retN X0 hx (t := .boolean) Bd.returns (by simp) (hb hby own_d9_25) hr
    · show QLE_11 Z a1 a2 k1 k2 u0 v0 h0 n0 _ s₁.heap _
      rw [e0]
      exact ⟨(congrArg (fun z => some (Value.int z)) (by simp [own_eqL, hc21] : (0 : Int32) = (own_eqL [u0] [v0]))), N0, rfl⟩
theorem own_ef_rmSE_11 (m : MethodId) (a1 : Addr) (a2 : Addr) : entryFrame m #[(.ref a1), (.ref a2)] 3 = mkF m 0 #[.val (.ref a1), .val (.ref a2), .unset] [] := by first | (simp [entryFrame, mkF, argsToLocals, Value.category]; done) | rfl
def QSE_11 (Z : State) (a1 : Addr) (a2 : Addr) (cw : Int32) (b1 : Addr) (b2 : Addr) (k1 : ClassId) (k2 : ClassId) (u0 : Int32) (v0 : Int32) (h0 : Heap) (n0 : Nat) (v : Option Value) (h : Heap) (L : List Loc) : Prop := v = some (.int (own_eqL [u0] [v0])) ∧ Fr n0 L ∧ h = h0
set_option maxRecDepth 65536 in
set_option maxHeartbeats 40000000 in
theorem rmSE_11 (l : Launch) (Z : State) (a0 : Array Value) (hw : ∀ d ∈ tables_1, d.before a0 Z = true) (ws : List Jvm.Cond) (a1 : Addr) (a2 : Addr) (cw : Int32) (b1 : Addr) (b2 : Addr) (k1 : ClassId) (k2 : ClassId) (u0 : Int32) (v0 : Int32) (h0 : Heap) (n0 : Nat) (Z0 : n0 ≤ h0.size) (E_a2 : Exa Z h0 a2 "java/lang/String") (F_a1_coder : Fld Z h0 a1 "java/lang/String" "coder" "B" (.int (0 : Int32))) (F_a1_value : Fld Z h0 a1 "java/lang/String" "value" "[B" (.ref b1)) (F_a2_coder : Fld Z h0 a2 "java/lang/String" "coder" "B" (.int (0 : Int32))) (F_a2_value : Fld Z h0 a2 "java/lang/String" "value" "[B" (.ref b2)) (V_b1 : Arv Z h0 b1 k1 .byte (1 : Int32) [(.int u0)] (.int (0 : Int32))) (V_b2 : Arv Z h0 b2 k2 .byte (1 : Int32) [(.int v0)] (.int (0 : Int32))) (S_COMPACT_STRINGS : Sta Z h0 "java/lang/String" "COMPACT_STRINGS" "Z" (.int cw)) (hw0 : ¬ (cw = (0 : Int32))) (ne_a1_a2 : a1 ≠ a2) :
    MetFree l (⟨"java/lang/String", "equals", "(Ljava/lang/Object;)Z"⟩ : MethodName) (head1 (Jvm.Cond.code (⟨"java/lang/String", "equals", "(Ljava/lang/Object;)Z"⟩ : MethodName) jdk_42_method_66_code 3 (some .boolean) :: ws) ({ frames := 1, cells := 0, slots := 0, locals := 14 } : Room)) (fun a U => a = #[(.ref a1), (.ref a2)] ∧ Z.Warmed39 U.vm ∧ U.heap = h0) (fun _ _ _ _ _ => True) (fun _ U o U' => ∃ v L, o = .returned v ∧ QSE_11 Z a1 a2 cw b1 b2 k1 k2 u0 v0 h0 n0 v U'.heap L ∧ FrameEnd U o U' L ({ frames := 1, cells := 0, slots := 0, locals := 14 } : Room).cells ({ frames := 1, cells := 0, slots := 0, locals := 14 } : Room).slots) := by
  refine MetFree.of_bodySF (plainFor_of_name own_pn1) hisR ?_
  intro p e s m args below meth c s₁ Bd hml0 hP hK
  obtain ⟨rfl, hZ, hh⟩ := hP
  have hx := Bd.exec
  have hby := Bd.bytes
  have hml : c.maxLocals = 3 := hml0
  have hown : s.vm.findClass "java/lang/String" = some m.cls := findClass_of_methodNamed Bd.named
  have hnm := (name_of_methodNamed Bd.named Bd.method).1
  have X0 : Stand p l e ({ frames := 1, cells := 0, slots := 0, locals := 14 } : Room) s m #[(.ref a1), (.ref a2)] below meth c s₁ [] 0 0 := Stand.of_body Bd
  have e0 : s₁.heap = h0 := by rw [← hh, Bd.state]; rfl
  have N0 := Fr.nil n0
  have K0 : Keep h0 h0 [] := Keep.refl h0 _
  have pre0 : ∀ t, Steps p.tables e below (s₁.setTop (mkF m 0 #[.val (.ref a1), .val (.ref a2), .unset] [])) t → Steps p.tables e below (s₁.setTop (entryFrame m #[(.ref a1), (.ref a2)] 3)) t := fun t k => castTop (own_ef_rmSE_11 m a1 a2) k
  obtain ⟨T155, X155, e155, st155⟩ := instY X0 hx hZ hown (hw _ (List.mem_of_getElem? (i := 52) rfl)) e0 (Ins.self E_a2) (g := (mkF m 8 #[.val (.ref a1), .val (.ref a2), .unset] [(.ref a2)])) rfl rfl (hb hby own_d8_8)
  obtain ⟨T156, X156, e156, st156⟩ := castY X155 hx hZ hown (hw _ (List.mem_of_getElem? (i := 52) rfl)) e155 (Ins.self E_a2) (g := (mkF m 15 #[.val (.ref a1), .val (.ref a2), .unset] [(.ref a2)])) rfl rfl (hb hby own_d8_15)
  obtain ⟨T157, X157, e157, st157⟩ := getS2 X156 hx hZ hown (host := "") (Or.inl (hw _ (List.mem_of_getElem? (i := 53) rfl))) Via.refl e156 S_COMPACT_STRINGS (g := (mkF m 19 #[.val (.ref a1), .val (.ref a2), .val (.ref a2)] [])) rfl (hb hby own_d8_19)
  have hc22_158 : ¬ (cw = (0 : Int32)) := hw0
  obtain ⟨T159, X159, e159, st159⟩ := getF X157 hx hZ hown (host := "") (Or.inl (hw _ (List.mem_of_getElem? (i := 28) rfl))) Via.refl e157 F_a1_coder (g := (mkF m 26 #[.val (.ref a1), .val (.ref a2), .val (.ref a2)] [(.ref a1)])) rfl rfl (hb hby own_d8_26)
  obtain ⟨T160, X160, e160, st160⟩ := getF X159 hx hZ hown (host := "") (Or.inl (hw _ (List.mem_of_getElem? (i := 28) rfl))) Via.refl e159 F_a2_coder (g := (mkF m 30 #[.val (.ref a1), .val (.ref a2), .val (.ref a2)] [(.ref a2), (.int (0 : Int32))])) rfl rfl (hb hby own_d8_30)
  obtain ⟨T161, X161, e161, st161⟩ := getF X160 hx hZ hown (host := "") (Or.inl (hw _ (List.mem_of_getElem? (i := 27) rfl))) Via.refl e160 F_a1_value (g := (mkF m 37 #[.val (.ref a1), .val (.ref a2), .val (.ref a2)] [(.ref a1)])) rfl rfl (hb hby own_d8_37)
  obtain ⟨T162, X162, e162, st162⟩ := getF X161 hx hZ hown (host := "") (Or.inl (hw _ (List.mem_of_getElem? (i := 27) rfl))) Via.refl e161 F_a2_value (g := (mkF m 41 #[.val (.ref a1), .val (.ref a2), .val (.ref a2)] [(.ref a2), (.ref b1)])) rfl rfl (hb hby own_d8_41)
  obtain ⟨_, _, ⟨T163, L163, k163, n163⟩, -, X163, ⟨Lc163, hQ163, l163, y163, z163⟩, st163⟩ := Jvm.LawKit.callS X162 hx (y := (⟨"java/lang/StringLatin1", "equals", "([B[B)Z"⟩ : MethodName)) hown (mvT hZ (hw _ (List.mem_of_getElem? (i := 54) rfl))) (mvT hZ (hw _ (List.mem_of_getElem? (i := 55) rfl))) (mvT hZ (hw _ (List.mem_of_getElem? (i := 56) rfl))) (mvT hZ (hw _ (List.mem_of_getElem? (i := 57) rfl))) (by decide) (backOf (W := 0) (rmLE_11 l Z a0 hw [] b1 b2 k1 k2 u0 v0 h0 n0 (Nat.le_trans Z0 K0.1) V_b1 V_b2) hZ (hw _ (List.mem_of_getElem? (i := 57) rfl)) (hw _ (List.mem_of_getElem? (i := 56) rfl)) (by decide) (by decide)) (g := (mkF m 44 #[.val (.ref a1), .val (.ref a2), .val (.ref a2)] [(.ref b2), (.ref b1)])) rfl (by rw [hml]; rfl) (argsL := [(.ref b1), (.ref b2)]) (rest := []) (lenOf own_pd5 rfl) rfl (by show 2 * 0 + _ ≤ _; exact Nat.le_of_eq rfl) (hb hby own_d8_44) (fun _ _ => ⟨rfl, e162, (by decide : 0 + 0 ≤ _), (by decide : 0 + 0 ≤ _)⟩)
  dsimp only [Pt.U, Pt.locs, Pt.cells, Pt.slots] at X163 l163 y163 z163 st163 hQ163
  subst l163 y163 z163
  obtain ⟨rfl, N163q, e163⟩ := hQ163
  have N163 := Fr.app N0 N163q
  have pre164 : ∀ t, Steps p.tables e below (T163.setTop (mkF m 47 #[.val (.ref a1), .val (.ref a2), .val (.ref a2)] [(.int (own_eqL [u0] [v0]))])) t → Steps p.tables e below (s₁.setTop (entryFrame m #[(.ref a1), (.ref a2)] 3)) t := fun t k => by
    refine pre0 _ ?_
    show Steps p.tables e below (s₁.setTop (mkF m 0 #[.val (.ref a1), .val (.ref a2), .unset] [])) _
    refine XS.aloadN X0.here hx rfl (hb hby own_d8_0) rfl rfl ?_
    show Steps p.tables e below (s₁.setTop (mkF m 1 #[.val (.ref a1), .val (.ref a2), .unset] [(.ref a1)])) _
    refine XS.aloadN X0.here hx rfl (hb hby own_d8_1) rfl rfl ?_
    show Steps p.tables e below (s₁.setTop (mkF m 2 #[.val (.ref a1), .val (.ref a2), .unset] [(.ref a2), (.ref a1)])) _
    refine Jvm.RoadKit.acmp (g := (mkF m 2 #[.val (.ref a1), .val (.ref a2), .unset] [(.ref a2), (.ref a1)])) X0 hx rfl rfl rfl (pc0 := 2) (pc' := 7) (same := false) rfl (hb hby own_d8_2) rfl (decide_eq_false fun q => ne_a1_a2 (Value.ref.inj q)) (by decide) (by decide) ?_
    show Steps p.tables e below (s₁.setTop (mkF m 7 #[.val (.ref a1), .val (.ref a2), .unset] [])) _
    refine XS.aloadN X0.here hx rfl (hb hby own_d8_7) rfl rfl ?_
    show Steps p.tables e below (s₁.setTop (mkF m 8 #[.val (.ref a1), .val (.ref a2), .unset] [(.ref a2)])) _
    refine st155 _ ?_
    show Steps p.tables e below (T155.setTop (mkF m 11 #[.val (.ref a1), .val (.ref a2), .unset] [(.int (1 : Int32))])) _
    refine XS.ifNo X155.here hx rfl (hb hby own_d8_11) rfl ((if0 _ _).trans (feq (by decide : ¬ ((1 : Int32) = (0 : Int32)))).1) ?_
    show Steps p.tables e below (T155.setTop (mkF m 14 #[.val (.ref a1), .val (.ref a2), .unset] [])) _
    refine XS.aloadN X155.here hx rfl (hb hby own_d8_14) rfl rfl ?_
    show Steps p.tables e below (T155.setTop (mkF m 15 #[.val (.ref a1), .val (.ref a2), .unset] [(.ref a2)])) _
    refine st156 _ ?_
    show Steps p.tables e below (T156.setTop (mkF m 18 #[.val (.ref a1), .val (.ref a2), .unset] [(.ref a2)])) _
    refine XS.astoreN X156.here hx rfl (hb hby own_d8_18) rfl rfl (l' := #[.val (.ref a1), .val (.ref a2), .val (.ref a2)]) rfl ?_
    show Steps p.tables e below (T156.setTop (mkF m 19 #[.val (.ref a1), .val (.ref a2), .val (.ref a2)] [])) _
    refine st157 _ ?_
    show Steps p.tables e below (T157.setTop (mkF m 22 #[.val (.ref a1), .val (.ref a2), .val (.ref a2)] [(.int cw)])) _
    refine XS.ifNo X157.here hx rfl (hb hby own_d8_22) rfl ((if0 _ _).trans (feq hc22_158).1) ?_
    show Steps p.tables e below (T157.setTop (mkF m 25 #[.val (.ref a1), .val (.ref a2), .val (.ref a2)] [])) _
    refine XS.aloadN X157.here hx rfl (hb hby own_d8_25) rfl rfl ?_
    show Steps p.tables e below (T157.setTop (mkF m 26 #[.val (.ref a1), .val (.ref a2), .val (.ref a2)] [(.ref a1)])) _
    refine st159 _ ?_
    show Steps p.tables e below (T159.setTop (mkF m 29 #[.val (.ref a1), .val (.ref a2), .val (.ref a2)] [(.int (0 : Int32))])) _
    refine XS.aloadN X159.here hx rfl (hb hby own_d8_29) rfl rfl ?_
    show Steps p.tables e below (T159.setTop (mkF m 30 #[.val (.ref a1), .val (.ref a2), .val (.ref a2)] [(.ref a2), (.int (0 : Int32))])) _
    refine st160 _ ?_
    show Steps p.tables e below (T160.setTop (mkF m 33 #[.val (.ref a1), .val (.ref a2), .val (.ref a2)] [(.int (0 : Int32)), (.int (0 : Int32))])) _
    refine XS.icmpNo X160.here hx rfl (hb hby own_d8_33) rfl (teq (by decide : ((0 : Int32) = (0 : Int32)))).2 ?_
    show Steps p.tables e below (T160.setTop (mkF m 36 #[.val (.ref a1), .val (.ref a2), .val (.ref a2)] [])) _
    refine XS.aloadN X160.here hx rfl (hb hby own_d8_36) rfl rfl ?_
    show Steps p.tables e below (T160.setTop (mkF m 37 #[.val (.ref a1), .val (.ref a2), .val (.ref a2)] [(.ref a1)])) _
    refine st161 _ ?_
    show Steps p.tables e below (T161.setTop (mkF m 40 #[.val (.ref a1), .val (.ref a2), .val (.ref a2)] [(.ref b1)])) _
    refine XS.aloadN X161.here hx rfl (hb hby own_d8_40) rfl rfl ?_
    show Steps p.tables e below (T161.setTop (mkF m 41 #[.val (.ref a1), .val (.ref a2), .val (.ref a2)] [(.ref a2), (.ref b1)])) _
    refine st162 _ ?_
    show Steps p.tables e below (T162.setTop (mkF m 44 #[.val (.ref a1), .val (.ref a2), .val (.ref a2)] [(.ref b2), (.ref b1)])) _
    refine st163 _ ?_
    exact k
  by_cases hc47 : (own_eqL [u0] [v0]) = (0 : Int32)
  · obtain ⟨fs, hr, hrun, hended, hW, hsame⟩ := X163.leave (v := some (.int (0 : Int32))) (fun h => by rw [Bd.returns] at h; cases h)
    refine ⟨_, _, pre164 _ ?_, hrun, hended, _, _, rfl, ?_, ⟨_, rfl⟩, hW, hsame.mono (by decide) (by decide)⟩
    · show Steps p.tables e below (T163.setTop (mkF m 47 #[.val (.ref a1), .val (.ref a2), .val (.ref a2)] [(.int (own_eqL [u0] [v0]))])) _
      refine XS.ifYes X163.here hx rfl (pc0 := 47) (pc' := 54) rfl (hb hby own_d8_47) rfl ((if0 _ _).trans (teq hc47).1) (by decide) (by decide) ?_
      show Steps p.tables e below (T163.setTop (mkF m 54 #[.val (.ref a1), .val (.ref a2), .val (.ref a2)] [])) _
      refine XS.iconst X163.here hx rfl (hb hby own_d8_54) ?_
      show Steps p.tables e below (T163.setTop (mkF m 55 #[.val (.ref a1), .val (.ref a2), .val (.ref a2)] [(.int (0 : Int32))])) _
      exact retN X163 hx (t := .boolean) Bd.returns (by simp) (hb hby own_d8_55) hr
    · show QSE_11 Z a1 a2 cw b1 b2 k1 k2 u0 v0 h0 n0 _ T163.heap _
      rw [e163]
      exact ⟨(congrArg (fun z => some (Value.int z)) (hc47.symm : (0 : Int32) = (own_eqL [u0] [v0]))), N163, rfl⟩
  · obtain ⟨fs, hr, hrun, hended, hW, hsame⟩ := X163.leave (v := some (.int (1 : Int32))) (fun h => by rw [Bd.returns] at h; cases h)
    refine ⟨_, _, pre164 _ ?_, hrun, hended, _, _, rfl, ?_, ⟨_, rfl⟩, hW, hsame.mono (by decide) (by decide)⟩
    · show Steps p.tables e below (T163.setTop (mkF m 47 #[.val (.ref a1), .val (.ref a2), .val (.ref a2)] [(.int (own_eqL [u0] [v0]))])) _
      refine XS.ifNo X163.here hx rfl (hb hby own_d8_47) rfl ((if0 _ _).trans (feq hc47).1) ?_
      show Steps p.tables e below (T163.setTop (mkF m 50 #[.val (.ref a1), .val (.ref a2), .val (.ref a2)] [])) _
      refine XS.iconst X163.here hx rfl (hb hby own_d8_50) ?_
      show Steps p.tables e below (T163.setTop (mkF m 51 #[.val (.ref a1), .val (.ref a2), .val (.ref a2)] [(.int (1 : Int32))])) _
      refine XS.goto X163.here hx rfl (pc0 := 51) (pc' := 55) rfl (hb hby own_d8_51) (by decide) (by decide) ?_
      show Steps p.tables e below (T163.setTop (mkF m 55 #[.val (.ref a1), .val (.ref a2), .val (.ref a2)] [(.int (1 : Int32))])) _
      exact retN X163 hx (t := .boolean) Bd.returns (by simp) (hb hby own_d8_55) hr
    · show QSE_11 Z a1 a2 cw b1 b2 k1 k2 u0 v0 h0 n0 _ T163.heap _
      rw [e163]
      exact ⟨(congrArg (fun z => some (Value.int z)) ((own_eqL1 hc47).symm : (1 : Int32) = (own_eqL [u0] [v0]))), N163, rfl⟩
theorem own_ef_rmLE_12 (m : MethodId) (a1 : Addr) (a2 : Addr) : entryFrame m #[(.ref a1), (.ref a2)] 3 = mkF m 0 #[.val (.ref a1), .val (.ref a2), .unset] [] := by first | (simp [entryFrame, mkF, argsToLocals, Value.category]; done) | rfl
def QLE_12 (Z : State) (a1 : Addr) (a2 : Addr) (k1 : ClassId) (k2 : ClassId) (u0 : Int32) (v0 : Int32) (v1 : Int32) (h0 : Heap) (n0 : Nat) (v : Option Value) (h : Heap) (L : List Loc) : Prop := v = some (.int (own_eqL [u0] [v0, v1])) ∧ Fr n0 L ∧ h = h0
set_option maxRecDepth 65536 in
set_option maxHeartbeats 40000000 in
theorem rmLE_12 (l : Launch) (Z : State) (a0 : Array Value) (hw : ∀ d ∈ tables_1, d.before a0 Z = true) (ws : List Jvm.Cond) (a1 : Addr) (a2 : Addr) (k1 : ClassId) (k2 : ClassId) (u0 : Int32) (v0 : Int32) (v1 : Int32) (h0 : Heap) (n0 : Nat) (Z0 : n0 ≤ h0.size) (V_a1 : Arv Z h0 a1 k1 .byte (1 : Int32) [(.int u0)] (.int (0 : Int32))) (V_a2 : Arv Z h0 a2 k2 .byte (2 : Int32) [(.int v0), (.int v1)] (.int (0 : Int32))) :
    MetFree l (⟨"java/lang/StringLatin1", "equals", "([B[B)Z"⟩ : MethodName) (head1 (Jvm.Cond.code (⟨"java/lang/StringLatin1", "equals", "([B[B)Z"⟩ : MethodName) jdk_43_method_13_code 3 (some .boolean) :: ws) ({ frames := 0, cells := 0, slots := 0, locals := 0 } : Room)) (fun a U => a = #[(.ref a1), (.ref a2)] ∧ Z.Warmed39 U.vm ∧ U.heap = h0) (fun _ _ _ _ _ => True) (fun _ U o U' => ∃ v L, o = .returned v ∧ QLE_12 Z a1 a2 k1 k2 u0 v0 v1 h0 n0 v U'.heap L ∧ FrameEnd U o U' L ({ frames := 0, cells := 0, slots := 0, locals := 0 } : Room).cells ({ frames := 0, cells := 0, slots := 0, locals := 0 } : Room).slots) := by
  refine MetFree.of_bodySF (plainFor_of_name own_pn3) hisR ?_
  intro p e s m args below meth c s₁ Bd hml0 hP hK
  obtain ⟨rfl, hZ, hh⟩ := hP
  have hx := Bd.exec
  have hby := Bd.bytes
  have hml : c.maxLocals = 3 := hml0
  have hown : s.vm.findClass "java/lang/StringLatin1" = some m.cls := findClass_of_methodNamed Bd.named
  have hnm := (name_of_methodNamed Bd.named Bd.method).1
  have X0 : Stand p l e ({ frames := 0, cells := 0, slots := 0, locals := 0 } : Room) s m #[(.ref a1), (.ref a2)] below meth c s₁ [] 0 0 := Stand.of_body Bd
  have e0 : s₁.heap = h0 := by rw [← hh, Bd.state]; rfl
  have N0 := Fr.nil n0
  have K0 : Keep h0 h0 [] := Keep.refl h0 _
  have pre0 : ∀ t, Steps p.tables e below (s₁.setTop (mkF m 0 #[.val (.ref a1), .val (.ref a2), .unset] [])) t → Steps p.tables e below (s₁.setTop (entryFrame m #[(.ref a1), (.ref a2)] 3)) t := fun t k => castTop (own_ef_rmLE_12 m a1 a2) k
  obtain ⟨cl165, Ar165, q165, S165, M165, H165, G165⟩ := id V_a1
  obtain ⟨cl166, Ar166, q166, S166, M166, H166, G166⟩ := id V_a2
  obtain ⟨fs, hr, hrun, hended, hW, hsame⟩ := X0.leave (v := some (.int (0 : Int32))) (fun h => by rw [Bd.returns] at h; cases h)
  refine ⟨_, _, pre0 _ ?_, hrun, hended, _, _, rfl, ?_, ⟨_, rfl⟩, hW, hsame.mono (by decide) (by decide)⟩
  · show Steps p.tables e below (s₁.setTop (mkF m 0 #[.val (.ref a1), .val (.ref a2), .unset] [])) _
    refine XS.aloadN X0.here hx rfl (hb hby own_d9_0) rfl rfl ?_
    show Steps p.tables e below (s₁.setTop (mkF m 1 #[.val (.ref a1), .val (.ref a2), .unset] [(.ref a1)])) _
    refine X0.arraylength hx (by rw [e0]; exact Ar165.1) (State.isArrayOf_alike hZ.alike Ar165.2.1) (g := (mkF m 1 #[.val (.ref a1), .val (.ref a2), .unset] [(.ref a1)])) rfl rfl (hb hby own_d9_1) _ ?_
    rw [len_of S165 M165]
    show Steps p.tables e below (s₁.setTop (mkF m 2 #[.val (.ref a1), .val (.ref a2), .unset] [(.int (1 : Int32))])) _
    refine XS.aloadN X0.here hx rfl (hb hby own_d9_2) rfl rfl ?_
    show Steps p.tables e below (s₁.setTop (mkF m 3 #[.val (.ref a1), .val (.ref a2), .unset] [(.ref a2), (.int (1 : Int32))])) _
    refine X0.arraylength hx (by rw [e0]; exact Ar166.1) (State.isArrayOf_alike hZ.alike Ar166.2.1) (g := (mkF m 3 #[.val (.ref a1), .val (.ref a2), .unset] [(.ref a2), (.int (1 : Int32))])) rfl rfl (hb hby own_d9_3) _ ?_
    rw [len_of S166 M166]
    show Steps p.tables e below (s₁.setTop (mkF m 4 #[.val (.ref a1), .val (.ref a2), .unset] [(.int (2 : Int32)), (.int (1 : Int32))])) _
    refine XS.icmpYes X0.here hx rfl (pc0 := 4) (pc' := 34) rfl (hb hby own_d9_4) rfl (feq (by decide : ¬ ((1 : Int32) = (2 : Int32)))).2 (by decide) (by decide) ?_
    show Steps p.tables e below (s₁.setTop (mkF m 34 #[.val (.ref a1), .val (.ref a2), .unset] [])) _
    refine XS.iconst X0.here hx rfl (hb hby own_d9_34) ?_
    show Steps p.tables e below (s₁.setTop (mkF m 35 #[.val (.ref a1), .val (.ref a2), .unset] [(.int (0 : Int32))])) _
    exact retN X0 hx (t := .boolean) Bd.returns (by simp) (hb hby own_d9_35) hr
  · show QLE_12 Z a1 a2 k1 k2 u0 v0 v1 h0 n0 _ s₁.heap _
    rw [e0]
    exact ⟨(congrArg (fun z => some (Value.int z)) (by simp [own_eqL] : (0 : Int32) = (own_eqL [u0] [v0, v1]))), N0, rfl⟩
theorem own_ef_rmSE_12 (m : MethodId) (a1 : Addr) (a2 : Addr) : entryFrame m #[(.ref a1), (.ref a2)] 3 = mkF m 0 #[.val (.ref a1), .val (.ref a2), .unset] [] := by first | (simp [entryFrame, mkF, argsToLocals, Value.category]; done) | rfl
def QSE_12 (Z : State) (a1 : Addr) (a2 : Addr) (cw : Int32) (b1 : Addr) (b2 : Addr) (k1 : ClassId) (k2 : ClassId) (u0 : Int32) (v0 : Int32) (v1 : Int32) (h0 : Heap) (n0 : Nat) (v : Option Value) (h : Heap) (L : List Loc) : Prop := v = some (.int (own_eqL [u0] [v0, v1])) ∧ Fr n0 L ∧ h = h0
set_option maxRecDepth 65536 in
set_option maxHeartbeats 40000000 in
theorem rmSE_12 (l : Launch) (Z : State) (a0 : Array Value) (hw : ∀ d ∈ tables_1, d.before a0 Z = true) (ws : List Jvm.Cond) (a1 : Addr) (a2 : Addr) (cw : Int32) (b1 : Addr) (b2 : Addr) (k1 : ClassId) (k2 : ClassId) (u0 : Int32) (v0 : Int32) (v1 : Int32) (h0 : Heap) (n0 : Nat) (Z0 : n0 ≤ h0.size) (E_a2 : Exa Z h0 a2 "java/lang/String") (F_a1_coder : Fld Z h0 a1 "java/lang/String" "coder" "B" (.int (0 : Int32))) (F_a1_value : Fld Z h0 a1 "java/lang/String" "value" "[B" (.ref b1)) (F_a2_coder : Fld Z h0 a2 "java/lang/String" "coder" "B" (.int (0 : Int32))) (F_a2_value : Fld Z h0 a2 "java/lang/String" "value" "[B" (.ref b2)) (V_b1 : Arv Z h0 b1 k1 .byte (1 : Int32) [(.int u0)] (.int (0 : Int32))) (V_b2 : Arv Z h0 b2 k2 .byte (2 : Int32) [(.int v0), (.int v1)] (.int (0 : Int32))) (S_COMPACT_STRINGS : Sta Z h0 "java/lang/String" "COMPACT_STRINGS" "Z" (.int cw)) (hw0 : ¬ (cw = (0 : Int32))) (ne_a1_a2 : a1 ≠ a2) :
    MetFree l (⟨"java/lang/String", "equals", "(Ljava/lang/Object;)Z"⟩ : MethodName) (head1 (Jvm.Cond.code (⟨"java/lang/String", "equals", "(Ljava/lang/Object;)Z"⟩ : MethodName) jdk_42_method_66_code 3 (some .boolean) :: ws) ({ frames := 1, cells := 0, slots := 0, locals := 14 } : Room)) (fun a U => a = #[(.ref a1), (.ref a2)] ∧ Z.Warmed39 U.vm ∧ U.heap = h0) (fun _ _ _ _ _ => True) (fun _ U o U' => ∃ v L, o = .returned v ∧ QSE_12 Z a1 a2 cw b1 b2 k1 k2 u0 v0 v1 h0 n0 v U'.heap L ∧ FrameEnd U o U' L ({ frames := 1, cells := 0, slots := 0, locals := 14 } : Room).cells ({ frames := 1, cells := 0, slots := 0, locals := 14 } : Room).slots) := by
  refine MetFree.of_bodySF (plainFor_of_name own_pn1) hisR ?_
  intro p e s m args below meth c s₁ Bd hml0 hP hK
  obtain ⟨rfl, hZ, hh⟩ := hP
  have hx := Bd.exec
  have hby := Bd.bytes
  have hml : c.maxLocals = 3 := hml0
  have hown : s.vm.findClass "java/lang/String" = some m.cls := findClass_of_methodNamed Bd.named
  have hnm := (name_of_methodNamed Bd.named Bd.method).1
  have X0 : Stand p l e ({ frames := 1, cells := 0, slots := 0, locals := 14 } : Room) s m #[(.ref a1), (.ref a2)] below meth c s₁ [] 0 0 := Stand.of_body Bd
  have e0 : s₁.heap = h0 := by rw [← hh, Bd.state]; rfl
  have N0 := Fr.nil n0
  have K0 : Keep h0 h0 [] := Keep.refl h0 _
  have pre0 : ∀ t, Steps p.tables e below (s₁.setTop (mkF m 0 #[.val (.ref a1), .val (.ref a2), .unset] [])) t → Steps p.tables e below (s₁.setTop (entryFrame m #[(.ref a1), (.ref a2)] 3)) t := fun t k => castTop (own_ef_rmSE_12 m a1 a2) k
  obtain ⟨T167, X167, e167, st167⟩ := instY X0 hx hZ hown (hw _ (List.mem_of_getElem? (i := 52) rfl)) e0 (Ins.self E_a2) (g := (mkF m 8 #[.val (.ref a1), .val (.ref a2), .unset] [(.ref a2)])) rfl rfl (hb hby own_d8_8)
  obtain ⟨T168, X168, e168, st168⟩ := castY X167 hx hZ hown (hw _ (List.mem_of_getElem? (i := 52) rfl)) e167 (Ins.self E_a2) (g := (mkF m 15 #[.val (.ref a1), .val (.ref a2), .unset] [(.ref a2)])) rfl rfl (hb hby own_d8_15)
  obtain ⟨T169, X169, e169, st169⟩ := getS2 X168 hx hZ hown (host := "") (Or.inl (hw _ (List.mem_of_getElem? (i := 53) rfl))) Via.refl e168 S_COMPACT_STRINGS (g := (mkF m 19 #[.val (.ref a1), .val (.ref a2), .val (.ref a2)] [])) rfl (hb hby own_d8_19)
  have hc22_170 : ¬ (cw = (0 : Int32)) := hw0
  obtain ⟨T171, X171, e171, st171⟩ := getF X169 hx hZ hown (host := "") (Or.inl (hw _ (List.mem_of_getElem? (i := 28) rfl))) Via.refl e169 F_a1_coder (g := (mkF m 26 #[.val (.ref a1), .val (.ref a2), .val (.ref a2)] [(.ref a1)])) rfl rfl (hb hby own_d8_26)
  obtain ⟨T172, X172, e172, st172⟩ := getF X171 hx hZ hown (host := "") (Or.inl (hw _ (List.mem_of_getElem? (i := 28) rfl))) Via.refl e171 F_a2_coder (g := (mkF m 30 #[.val (.ref a1), .val (.ref a2), .val (.ref a2)] [(.ref a2), (.int (0 : Int32))])) rfl rfl (hb hby own_d8_30)
  obtain ⟨T173, X173, e173, st173⟩ := getF X172 hx hZ hown (host := "") (Or.inl (hw _ (List.mem_of_getElem? (i := 27) rfl))) Via.refl e172 F_a1_value (g := (mkF m 37 #[.val (.ref a1), .val (.ref a2), .val (.ref a2)] [(.ref a1)])) rfl rfl (hb hby own_d8_37)
  obtain ⟨T174, X174, e174, st174⟩ := getF X173 hx hZ hown (host := "") (Or.inl (hw _ (List.mem_of_getElem? (i := 27) rfl))) Via.refl e173 F_a2_value (g := (mkF m 41 #[.val (.ref a1), .val (.ref a2), .val (.ref a2)] [(.ref a2), (.ref b1)])) rfl rfl (hb hby own_d8_41)
  obtain ⟨_, _, ⟨T175, L175, k175, n175⟩, -, X175, ⟨Lc175, hQ175, l175, y175, z175⟩, st175⟩ := Jvm.LawKit.callS X174 hx (y := (⟨"java/lang/StringLatin1", "equals", "([B[B)Z"⟩ : MethodName)) hown (mvT hZ (hw _ (List.mem_of_getElem? (i := 54) rfl))) (mvT hZ (hw _ (List.mem_of_getElem? (i := 55) rfl))) (mvT hZ (hw _ (List.mem_of_getElem? (i := 56) rfl))) (mvT hZ (hw _ (List.mem_of_getElem? (i := 57) rfl))) (by decide) (backOf (W := 0) (rmLE_12 l Z a0 hw [] b1 b2 k1 k2 u0 v0 v1 h0 n0 (Nat.le_trans Z0 K0.1) V_b1 V_b2) hZ (hw _ (List.mem_of_getElem? (i := 57) rfl)) (hw _ (List.mem_of_getElem? (i := 56) rfl)) (by decide) (by decide)) (g := (mkF m 44 #[.val (.ref a1), .val (.ref a2), .val (.ref a2)] [(.ref b2), (.ref b1)])) rfl (by rw [hml]; rfl) (argsL := [(.ref b1), (.ref b2)]) (rest := []) (lenOf own_pd5 rfl) rfl (by show 2 * 0 + _ ≤ _; exact Nat.le_of_eq rfl) (hb hby own_d8_44) (fun _ _ => ⟨rfl, e174, (by decide : 0 + 0 ≤ _), (by decide : 0 + 0 ≤ _)⟩)
  dsimp only [Pt.U, Pt.locs, Pt.cells, Pt.slots] at X175 l175 y175 z175 st175 hQ175
  subst l175 y175 z175
  obtain ⟨rfl, N175q, e175⟩ := hQ175
  have N175 := Fr.app N0 N175q
  have pre176 : ∀ t, Steps p.tables e below (T175.setTop (mkF m 47 #[.val (.ref a1), .val (.ref a2), .val (.ref a2)] [(.int (own_eqL [u0] [v0, v1]))])) t → Steps p.tables e below (s₁.setTop (entryFrame m #[(.ref a1), (.ref a2)] 3)) t := fun t k => by
    refine pre0 _ ?_
    show Steps p.tables e below (s₁.setTop (mkF m 0 #[.val (.ref a1), .val (.ref a2), .unset] [])) _
    refine XS.aloadN X0.here hx rfl (hb hby own_d8_0) rfl rfl ?_
    show Steps p.tables e below (s₁.setTop (mkF m 1 #[.val (.ref a1), .val (.ref a2), .unset] [(.ref a1)])) _
    refine XS.aloadN X0.here hx rfl (hb hby own_d8_1) rfl rfl ?_
    show Steps p.tables e below (s₁.setTop (mkF m 2 #[.val (.ref a1), .val (.ref a2), .unset] [(.ref a2), (.ref a1)])) _
    refine Jvm.RoadKit.acmp (g := (mkF m 2 #[.val (.ref a1), .val (.ref a2), .unset] [(.ref a2), (.ref a1)])) X0 hx rfl rfl rfl (pc0 := 2) (pc' := 7) (same := false) rfl (hb hby own_d8_2) rfl (decide_eq_false fun q => ne_a1_a2 (Value.ref.inj q)) (by decide) (by decide) ?_
    show Steps p.tables e below (s₁.setTop (mkF m 7 #[.val (.ref a1), .val (.ref a2), .unset] [])) _
    refine XS.aloadN X0.here hx rfl (hb hby own_d8_7) rfl rfl ?_
    show Steps p.tables e below (s₁.setTop (mkF m 8 #[.val (.ref a1), .val (.ref a2), .unset] [(.ref a2)])) _
    refine st167 _ ?_
    show Steps p.tables e below (T167.setTop (mkF m 11 #[.val (.ref a1), .val (.ref a2), .unset] [(.int (1 : Int32))])) _
    refine XS.ifNo X167.here hx rfl (hb hby own_d8_11) rfl ((if0 _ _).trans (feq (by decide : ¬ ((1 : Int32) = (0 : Int32)))).1) ?_
    show Steps p.tables e below (T167.setTop (mkF m 14 #[.val (.ref a1), .val (.ref a2), .unset] [])) _
    refine XS.aloadN X167.here hx rfl (hb hby own_d8_14) rfl rfl ?_
    show Steps p.tables e below (T167.setTop (mkF m 15 #[.val (.ref a1), .val (.ref a2), .unset] [(.ref a2)])) _
    refine st168 _ ?_
    show Steps p.tables e below (T168.setTop (mkF m 18 #[.val (.ref a1), .val (.ref a2), .unset] [(.ref a2)])) _
    refine XS.astoreN X168.here hx rfl (hb hby own_d8_18) rfl rfl (l' := #[.val (.ref a1), .val (.ref a2), .val (.ref a2)]) rfl ?_
    show Steps p.tables e below (T168.setTop (mkF m 19 #[.val (.ref a1), .val (.ref a2), .val (.ref a2)] [])) _
    refine st169 _ ?_
    show Steps p.tables e below (T169.setTop (mkF m 22 #[.val (.ref a1), .val (.ref a2), .val (.ref a2)] [(.int cw)])) _
    refine XS.ifNo X169.here hx rfl (hb hby own_d8_22) rfl ((if0 _ _).trans (feq hc22_170).1) ?_
    show Steps p.tables e below (T169.setTop (mkF m 25 #[.val (.ref a1), .val (.ref a2), .val (.ref a2)] [])) _
    refine XS.aloadN X169.here hx rfl (hb hby own_d8_25) rfl rfl ?_
    show Steps p.tables e below (T169.setTop (mkF m 26 #[.val (.ref a1), .val (.ref a2), .val (.ref a2)] [(.ref a1)])) _
    refine st171 _ ?_
    show Steps p.tables e below (T171.setTop (mkF m 29 #[.val (.ref a1), .val (.ref a2), .val (.ref a2)] [(.int (0 : Int32))])) _
    refine XS.aloadN X171.here hx rfl (hb hby own_d8_29) rfl rfl ?_
    show Steps p.tables e below (T171.setTop (mkF m 30 #[.val (.ref a1), .val (.ref a2), .val (.ref a2)] [(.ref a2), (.int (0 : Int32))])) _
    refine st172 _ ?_
    show Steps p.tables e below (T172.setTop (mkF m 33 #[.val (.ref a1), .val (.ref a2), .val (.ref a2)] [(.int (0 : Int32)), (.int (0 : Int32))])) _
    refine XS.icmpNo X172.here hx rfl (hb hby own_d8_33) rfl (teq (by decide : ((0 : Int32) = (0 : Int32)))).2 ?_
    show Steps p.tables e below (T172.setTop (mkF m 36 #[.val (.ref a1), .val (.ref a2), .val (.ref a2)] [])) _
    refine XS.aloadN X172.here hx rfl (hb hby own_d8_36) rfl rfl ?_
    show Steps p.tables e below (T172.setTop (mkF m 37 #[.val (.ref a1), .val (.ref a2), .val (.ref a2)] [(.ref a1)])) _
    refine st173 _ ?_
    show Steps p.tables e below (T173.setTop (mkF m 40 #[.val (.ref a1), .val (.ref a2), .val (.ref a2)] [(.ref b1)])) _
    refine XS.aloadN X173.here hx rfl (hb hby own_d8_40) rfl rfl ?_
    show Steps p.tables e below (T173.setTop (mkF m 41 #[.val (.ref a1), .val (.ref a2), .val (.ref a2)] [(.ref a2), (.ref b1)])) _
    refine st174 _ ?_
    show Steps p.tables e below (T174.setTop (mkF m 44 #[.val (.ref a1), .val (.ref a2), .val (.ref a2)] [(.ref b2), (.ref b1)])) _
    refine st175 _ ?_
    exact k
  by_cases hc47 : (own_eqL [u0] [v0, v1]) = (0 : Int32)
  · obtain ⟨fs, hr, hrun, hended, hW, hsame⟩ := X175.leave (v := some (.int (0 : Int32))) (fun h => by rw [Bd.returns] at h; cases h)
    refine ⟨_, _, pre176 _ ?_, hrun, hended, _, _, rfl, ?_, ⟨_, rfl⟩, hW, hsame.mono (by decide) (by decide)⟩
    · show Steps p.tables e below (T175.setTop (mkF m 47 #[.val (.ref a1), .val (.ref a2), .val (.ref a2)] [(.int (own_eqL [u0] [v0, v1]))])) _
      refine XS.ifYes X175.here hx rfl (pc0 := 47) (pc' := 54) rfl (hb hby own_d8_47) rfl ((if0 _ _).trans (teq hc47).1) (by decide) (by decide) ?_
      show Steps p.tables e below (T175.setTop (mkF m 54 #[.val (.ref a1), .val (.ref a2), .val (.ref a2)] [])) _
      refine XS.iconst X175.here hx rfl (hb hby own_d8_54) ?_
      show Steps p.tables e below (T175.setTop (mkF m 55 #[.val (.ref a1), .val (.ref a2), .val (.ref a2)] [(.int (0 : Int32))])) _
      exact retN X175 hx (t := .boolean) Bd.returns (by simp) (hb hby own_d8_55) hr
    · show QSE_12 Z a1 a2 cw b1 b2 k1 k2 u0 v0 v1 h0 n0 _ T175.heap _
      rw [e175]
      exact ⟨(congrArg (fun z => some (Value.int z)) (hc47.symm : (0 : Int32) = (own_eqL [u0] [v0, v1]))), N175, rfl⟩
  · obtain ⟨fs, hr, hrun, hended, hW, hsame⟩ := X175.leave (v := some (.int (1 : Int32))) (fun h => by rw [Bd.returns] at h; cases h)
    refine ⟨_, _, pre176 _ ?_, hrun, hended, _, _, rfl, ?_, ⟨_, rfl⟩, hW, hsame.mono (by decide) (by decide)⟩
    · show Steps p.tables e below (T175.setTop (mkF m 47 #[.val (.ref a1), .val (.ref a2), .val (.ref a2)] [(.int (own_eqL [u0] [v0, v1]))])) _
      refine XS.ifNo X175.here hx rfl (hb hby own_d8_47) rfl ((if0 _ _).trans (feq hc47).1) ?_
      show Steps p.tables e below (T175.setTop (mkF m 50 #[.val (.ref a1), .val (.ref a2), .val (.ref a2)] [])) _
      refine XS.iconst X175.here hx rfl (hb hby own_d8_50) ?_
      show Steps p.tables e below (T175.setTop (mkF m 51 #[.val (.ref a1), .val (.ref a2), .val (.ref a2)] [(.int (1 : Int32))])) _
      refine XS.goto X175.here hx rfl (pc0 := 51) (pc' := 55) rfl (hb hby own_d8_51) (by decide) (by decide) ?_
      show Steps p.tables e below (T175.setTop (mkF m 55 #[.val (.ref a1), .val (.ref a2), .val (.ref a2)] [(.int (1 : Int32))])) _
      exact retN X175 hx (t := .boolean) Bd.returns (by simp) (hb hby own_d8_55) hr
    · show QSE_12 Z a1 a2 cw b1 b2 k1 k2 u0 v0 v1 h0 n0 _ T175.heap _
      rw [e175]
      exact ⟨(congrArg (fun z => some (Value.int z)) ((own_eqL1 hc47).symm : (1 : Int32) = (own_eqL [u0] [v0, v1]))), N175, rfl⟩
theorem own_ef_rmLE_20 (m : MethodId) (a1 : Addr) (a2 : Addr) : entryFrame m #[(.ref a1), (.ref a2)] 3 = mkF m 0 #[.val (.ref a1), .val (.ref a2), .unset] [] := by first | (simp [entryFrame, mkF, argsToLocals, Value.category]; done) | rfl
def QLE_20 (Z : State) (a1 : Addr) (a2 : Addr) (k1 : ClassId) (k2 : ClassId) (u0 : Int32) (u1 : Int32) (h0 : Heap) (n0 : Nat) (v : Option Value) (h : Heap) (L : List Loc) : Prop := v = some (.int (own_eqL [u0, u1] [])) ∧ Fr n0 L ∧ h = h0
set_option maxRecDepth 65536 in
set_option maxHeartbeats 40000000 in
theorem rmLE_20 (l : Launch) (Z : State) (a0 : Array Value) (hw : ∀ d ∈ tables_1, d.before a0 Z = true) (ws : List Jvm.Cond) (a1 : Addr) (a2 : Addr) (k1 : ClassId) (k2 : ClassId) (u0 : Int32) (u1 : Int32) (h0 : Heap) (n0 : Nat) (Z0 : n0 ≤ h0.size) (V_a1 : Arv Z h0 a1 k1 .byte (2 : Int32) [(.int u0), (.int u1)] (.int (0 : Int32))) (V_a2 : Arv Z h0 a2 k2 .byte (0 : Int32) [] (.int (0 : Int32))) :
    MetFree l (⟨"java/lang/StringLatin1", "equals", "([B[B)Z"⟩ : MethodName) (head1 (Jvm.Cond.code (⟨"java/lang/StringLatin1", "equals", "([B[B)Z"⟩ : MethodName) jdk_43_method_13_code 3 (some .boolean) :: ws) ({ frames := 0, cells := 0, slots := 0, locals := 0 } : Room)) (fun a U => a = #[(.ref a1), (.ref a2)] ∧ Z.Warmed39 U.vm ∧ U.heap = h0) (fun _ _ _ _ _ => True) (fun _ U o U' => ∃ v L, o = .returned v ∧ QLE_20 Z a1 a2 k1 k2 u0 u1 h0 n0 v U'.heap L ∧ FrameEnd U o U' L ({ frames := 0, cells := 0, slots := 0, locals := 0 } : Room).cells ({ frames := 0, cells := 0, slots := 0, locals := 0 } : Room).slots) := by
  refine MetFree.of_bodySF (plainFor_of_name own_pn3) hisR ?_
  intro p e s m args below meth c s₁ Bd hml0 hP hK
  obtain ⟨rfl, hZ, hh⟩ := hP
  have hx := Bd.exec
  have hby := Bd.bytes
  have hml : c.maxLocals = 3 := hml0
  have hown : s.vm.findClass "java/lang/StringLatin1" = some m.cls := findClass_of_methodNamed Bd.named
  have hnm := (name_of_methodNamed Bd.named Bd.method).1
  have X0 : Stand p l e ({ frames := 0, cells := 0, slots := 0, locals := 0 } : Room) s m #[(.ref a1), (.ref a2)] below meth c s₁ [] 0 0 := Stand.of_body Bd
  have e0 : s₁.heap = h0 := by rw [← hh, Bd.state]; rfl
  have N0 := Fr.nil n0
  have K0 : Keep h0 h0 [] := Keep.refl h0 _
  have pre0 : ∀ t, Steps p.tables e below (s₁.setTop (mkF m 0 #[.val (.ref a1), .val (.ref a2), .unset] [])) t → Steps p.tables e below (s₁.setTop (entryFrame m #[(.ref a1), (.ref a2)] 3)) t := fun t k => castTop (own_ef_rmLE_20 m a1 a2) k
  obtain ⟨cl177, Ar177, q177, S177, M177, H177, G177⟩ := id V_a1
  obtain ⟨cl178, Ar178, q178, S178, M178, H178, G178⟩ := id V_a2
  obtain ⟨fs, hr, hrun, hended, hW, hsame⟩ := X0.leave (v := some (.int (0 : Int32))) (fun h => by rw [Bd.returns] at h; cases h)
  refine ⟨_, _, pre0 _ ?_, hrun, hended, _, _, rfl, ?_, ⟨_, rfl⟩, hW, hsame.mono (by decide) (by decide)⟩
  · show Steps p.tables e below (s₁.setTop (mkF m 0 #[.val (.ref a1), .val (.ref a2), .unset] [])) _
    refine XS.aloadN X0.here hx rfl (hb hby own_d9_0) rfl rfl ?_
    show Steps p.tables e below (s₁.setTop (mkF m 1 #[.val (.ref a1), .val (.ref a2), .unset] [(.ref a1)])) _
    refine X0.arraylength hx (by rw [e0]; exact Ar177.1) (State.isArrayOf_alike hZ.alike Ar177.2.1) (g := (mkF m 1 #[.val (.ref a1), .val (.ref a2), .unset] [(.ref a1)])) rfl rfl (hb hby own_d9_1) _ ?_
    rw [len_of S177 M177]
    show Steps p.tables e below (s₁.setTop (mkF m 2 #[.val (.ref a1), .val (.ref a2), .unset] [(.int (2 : Int32))])) _
    refine XS.aloadN X0.here hx rfl (hb hby own_d9_2) rfl rfl ?_
    show Steps p.tables e below (s₁.setTop (mkF m 3 #[.val (.ref a1), .val (.ref a2), .unset] [(.ref a2), (.int (2 : Int32))])) _
    refine X0.arraylength hx (by rw [e0]; exact Ar178.1) (State.isArrayOf_alike hZ.alike Ar178.2.1) (g := (mkF m 3 #[.val (.ref a1), .val (.ref a2), .unset] [(.ref a2), (.int (2 : Int32))])) rfl rfl (hb hby own_d9_3) _ ?_
    rw [len_of S178 M178]
    show Steps p.tables e below (s₁.setTop (mkF m 4 #[.val (.ref a1), .val (.ref a2), .unset] [(.int (0 : Int32)), (.int (2 : Int32))])) _
    refine XS.icmpYes X0.here hx rfl (pc0 := 4) (pc' := 34) rfl (hb hby own_d9_4) rfl (feq (by decide : ¬ ((2 : Int32) = (0 : Int32)))).2 (by decide) (by decide) ?_
    show Steps p.tables e below (s₁.setTop (mkF m 34 #[.val (.ref a1), .val (.ref a2), .unset] [])) _
    refine XS.iconst X0.here hx rfl (hb hby own_d9_34) ?_
    show Steps p.tables e below (s₁.setTop (mkF m 35 #[.val (.ref a1), .val (.ref a2), .unset] [(.int (0 : Int32))])) _
    exact retN X0 hx (t := .boolean) Bd.returns (by simp) (hb hby own_d9_35) hr
  · show QLE_20 Z a1 a2 k1 k2 u0 u1 h0 n0 _ s₁.heap _
    rw [e0]
    exact ⟨(congrArg (fun z => some (Value.int z)) (by simp [own_eqL] : (0 : Int32) = (own_eqL [u0, u1] []))), N0, rfl⟩
theorem own_ef_rmSE_20 (m : MethodId) (a1 : Addr) (a2 : Addr) : entryFrame m #[(.ref a1), (.ref a2)] 3 = mkF m 0 #[.val (.ref a1), .val (.ref a2), .unset] [] := by first | (simp [entryFrame, mkF, argsToLocals, Value.category]; done) | rfl
def QSE_20 (Z : State) (a1 : Addr) (a2 : Addr) (cw : Int32) (b1 : Addr) (b2 : Addr) (k1 : ClassId) (k2 : ClassId) (u0 : Int32) (u1 : Int32) (h0 : Heap) (n0 : Nat) (v : Option Value) (h : Heap) (L : List Loc) : Prop := v = some (.int (own_eqL [u0, u1] [])) ∧ Fr n0 L ∧ h = h0
set_option maxRecDepth 65536 in
set_option maxHeartbeats 40000000 in
theorem rmSE_20 (l : Launch) (Z : State) (a0 : Array Value) (hw : ∀ d ∈ tables_1, d.before a0 Z = true) (ws : List Jvm.Cond) (a1 : Addr) (a2 : Addr) (cw : Int32) (b1 : Addr) (b2 : Addr) (k1 : ClassId) (k2 : ClassId) (u0 : Int32) (u1 : Int32) (h0 : Heap) (n0 : Nat) (Z0 : n0 ≤ h0.size) (E_a2 : Exa Z h0 a2 "java/lang/String") (F_a1_coder : Fld Z h0 a1 "java/lang/String" "coder" "B" (.int (0 : Int32))) (F_a1_value : Fld Z h0 a1 "java/lang/String" "value" "[B" (.ref b1)) (F_a2_coder : Fld Z h0 a2 "java/lang/String" "coder" "B" (.int (0 : Int32))) (F_a2_value : Fld Z h0 a2 "java/lang/String" "value" "[B" (.ref b2)) (V_b1 : Arv Z h0 b1 k1 .byte (2 : Int32) [(.int u0), (.int u1)] (.int (0 : Int32))) (V_b2 : Arv Z h0 b2 k2 .byte (0 : Int32) [] (.int (0 : Int32))) (S_COMPACT_STRINGS : Sta Z h0 "java/lang/String" "COMPACT_STRINGS" "Z" (.int cw)) (hw0 : ¬ (cw = (0 : Int32))) (ne_a1_a2 : a1 ≠ a2) :
    MetFree l (⟨"java/lang/String", "equals", "(Ljava/lang/Object;)Z"⟩ : MethodName) (head1 (Jvm.Cond.code (⟨"java/lang/String", "equals", "(Ljava/lang/Object;)Z"⟩ : MethodName) jdk_42_method_66_code 3 (some .boolean) :: ws) ({ frames := 1, cells := 0, slots := 0, locals := 14 } : Room)) (fun a U => a = #[(.ref a1), (.ref a2)] ∧ Z.Warmed39 U.vm ∧ U.heap = h0) (fun _ _ _ _ _ => True) (fun _ U o U' => ∃ v L, o = .returned v ∧ QSE_20 Z a1 a2 cw b1 b2 k1 k2 u0 u1 h0 n0 v U'.heap L ∧ FrameEnd U o U' L ({ frames := 1, cells := 0, slots := 0, locals := 14 } : Room).cells ({ frames := 1, cells := 0, slots := 0, locals := 14 } : Room).slots) := by
  refine MetFree.of_bodySF (plainFor_of_name own_pn1) hisR ?_
  intro p e s m args below meth c s₁ Bd hml0 hP hK
  obtain ⟨rfl, hZ, hh⟩ := hP
  have hx := Bd.exec
  have hby := Bd.bytes
  have hml : c.maxLocals = 3 := hml0
  have hown : s.vm.findClass "java/lang/String" = some m.cls := findClass_of_methodNamed Bd.named
  have hnm := (name_of_methodNamed Bd.named Bd.method).1
  have X0 : Stand p l e ({ frames := 1, cells := 0, slots := 0, locals := 14 } : Room) s m #[(.ref a1), (.ref a2)] below meth c s₁ [] 0 0 := Stand.of_body Bd
  have e0 : s₁.heap = h0 := by rw [← hh, Bd.state]; rfl
  have N0 := Fr.nil n0
  have K0 : Keep h0 h0 [] := Keep.refl h0 _
  have pre0 : ∀ t, Steps p.tables e below (s₁.setTop (mkF m 0 #[.val (.ref a1), .val (.ref a2), .unset] [])) t → Steps p.tables e below (s₁.setTop (entryFrame m #[(.ref a1), (.ref a2)] 3)) t := fun t k => castTop (own_ef_rmSE_20 m a1 a2) k
  obtain ⟨T179, X179, e179, st179⟩ := instY X0 hx hZ hown (hw _ (List.mem_of_getElem? (i := 52) rfl)) e0 (Ins.self E_a2) (g := (mkF m 8 #[.val (.ref a1), .val (.ref a2), .unset] [(.ref a2)])) rfl rfl (hb hby own_d8_8)
  obtain ⟨T180, X180, e180, st180⟩ := castY X179 hx hZ hown (hw _ (List.mem_of_getElem? (i := 52) rfl)) e179 (Ins.self E_a2) (g := (mkF m 15 #[.val (.ref a1), .val (.ref a2), .unset] [(.ref a2)])) rfl rfl (hb hby own_d8_15)
  obtain ⟨T181, X181, e181, st181⟩ := getS2 X180 hx hZ hown (host := "") (Or.inl (hw _ (List.mem_of_getElem? (i := 53) rfl))) Via.refl e180 S_COMPACT_STRINGS (g := (mkF m 19 #[.val (.ref a1), .val (.ref a2), .val (.ref a2)] [])) rfl (hb hby own_d8_19)
  have hc22_182 : ¬ (cw = (0 : Int32)) := hw0
  obtain ⟨T183, X183, e183, st183⟩ := getF X181 hx hZ hown (host := "") (Or.inl (hw _ (List.mem_of_getElem? (i := 28) rfl))) Via.refl e181 F_a1_coder (g := (mkF m 26 #[.val (.ref a1), .val (.ref a2), .val (.ref a2)] [(.ref a1)])) rfl rfl (hb hby own_d8_26)
  obtain ⟨T184, X184, e184, st184⟩ := getF X183 hx hZ hown (host := "") (Or.inl (hw _ (List.mem_of_getElem? (i := 28) rfl))) Via.refl e183 F_a2_coder (g := (mkF m 30 #[.val (.ref a1), .val (.ref a2), .val (.ref a2)] [(.ref a2), (.int (0 : Int32))])) rfl rfl (hb hby own_d8_30)
  obtain ⟨T185, X185, e185, st185⟩ := getF X184 hx hZ hown (host := "") (Or.inl (hw _ (List.mem_of_getElem? (i := 27) rfl))) Via.refl e184 F_a1_value (g := (mkF m 37 #[.val (.ref a1), .val (.ref a2), .val (.ref a2)] [(.ref a1)])) rfl rfl (hb hby own_d8_37)
  obtain ⟨T186, X186, e186, st186⟩ := getF X185 hx hZ hown (host := "") (Or.inl (hw _ (List.mem_of_getElem? (i := 27) rfl))) Via.refl e185 F_a2_value (g := (mkF m 41 #[.val (.ref a1), .val (.ref a2), .val (.ref a2)] [(.ref a2), (.ref b1)])) rfl rfl (hb hby own_d8_41)
  obtain ⟨_, _, ⟨T187, L187, k187, n187⟩, -, X187, ⟨Lc187, hQ187, l187, y187, z187⟩, st187⟩ := Jvm.LawKit.callS X186 hx (y := (⟨"java/lang/StringLatin1", "equals", "([B[B)Z"⟩ : MethodName)) hown (mvT hZ (hw _ (List.mem_of_getElem? (i := 54) rfl))) (mvT hZ (hw _ (List.mem_of_getElem? (i := 55) rfl))) (mvT hZ (hw _ (List.mem_of_getElem? (i := 56) rfl))) (mvT hZ (hw _ (List.mem_of_getElem? (i := 57) rfl))) (by decide) (backOf (W := 0) (rmLE_20 l Z a0 hw [] b1 b2 k1 k2 u0 u1 h0 n0 (Nat.le_trans Z0 K0.1) V_b1 V_b2) hZ (hw _ (List.mem_of_getElem? (i := 57) rfl)) (hw _ (List.mem_of_getElem? (i := 56) rfl)) (by decide) (by decide)) (g := (mkF m 44 #[.val (.ref a1), .val (.ref a2), .val (.ref a2)] [(.ref b2), (.ref b1)])) rfl (by rw [hml]; rfl) (argsL := [(.ref b1), (.ref b2)]) (rest := []) (lenOf own_pd5 rfl) rfl (by show 2 * 0 + _ ≤ _; exact Nat.le_of_eq rfl) (hb hby own_d8_44) (fun _ _ => ⟨rfl, e186, (by decide : 0 + 0 ≤ _), (by decide : 0 + 0 ≤ _)⟩)
  dsimp only [Pt.U, Pt.locs, Pt.cells, Pt.slots] at X187 l187 y187 z187 st187 hQ187
  subst l187 y187 z187
  obtain ⟨rfl, N187q, e187⟩ := hQ187
  have N187 := Fr.app N0 N187q
  have pre188 : ∀ t, Steps p.tables e below (T187.setTop (mkF m 47 #[.val (.ref a1), .val (.ref a2), .val (.ref a2)] [(.int (own_eqL [u0, u1] []))])) t → Steps p.tables e below (s₁.setTop (entryFrame m #[(.ref a1), (.ref a2)] 3)) t := fun t k => by
    refine pre0 _ ?_
    show Steps p.tables e below (s₁.setTop (mkF m 0 #[.val (.ref a1), .val (.ref a2), .unset] [])) _
    refine XS.aloadN X0.here hx rfl (hb hby own_d8_0) rfl rfl ?_
    show Steps p.tables e below (s₁.setTop (mkF m 1 #[.val (.ref a1), .val (.ref a2), .unset] [(.ref a1)])) _
    refine XS.aloadN X0.here hx rfl (hb hby own_d8_1) rfl rfl ?_
    show Steps p.tables e below (s₁.setTop (mkF m 2 #[.val (.ref a1), .val (.ref a2), .unset] [(.ref a2), (.ref a1)])) _
    refine Jvm.RoadKit.acmp (g := (mkF m 2 #[.val (.ref a1), .val (.ref a2), .unset] [(.ref a2), (.ref a1)])) X0 hx rfl rfl rfl (pc0 := 2) (pc' := 7) (same := false) rfl (hb hby own_d8_2) rfl (decide_eq_false fun q => ne_a1_a2 (Value.ref.inj q)) (by decide) (by decide) ?_
    show Steps p.tables e below (s₁.setTop (mkF m 7 #[.val (.ref a1), .val (.ref a2), .unset] [])) _
    refine XS.aloadN X0.here hx rfl (hb hby own_d8_7) rfl rfl ?_
    show Steps p.tables e below (s₁.setTop (mkF m 8 #[.val (.ref a1), .val (.ref a2), .unset] [(.ref a2)])) _
    refine st179 _ ?_
    show Steps p.tables e below (T179.setTop (mkF m 11 #[.val (.ref a1), .val (.ref a2), .unset] [(.int (1 : Int32))])) _
    refine XS.ifNo X179.here hx rfl (hb hby own_d8_11) rfl ((if0 _ _).trans (feq (by decide : ¬ ((1 : Int32) = (0 : Int32)))).1) ?_
    show Steps p.tables e below (T179.setTop (mkF m 14 #[.val (.ref a1), .val (.ref a2), .unset] [])) _
    refine XS.aloadN X179.here hx rfl (hb hby own_d8_14) rfl rfl ?_
    show Steps p.tables e below (T179.setTop (mkF m 15 #[.val (.ref a1), .val (.ref a2), .unset] [(.ref a2)])) _
    refine st180 _ ?_
    show Steps p.tables e below (T180.setTop (mkF m 18 #[.val (.ref a1), .val (.ref a2), .unset] [(.ref a2)])) _
    refine XS.astoreN X180.here hx rfl (hb hby own_d8_18) rfl rfl (l' := #[.val (.ref a1), .val (.ref a2), .val (.ref a2)]) rfl ?_
    show Steps p.tables e below (T180.setTop (mkF m 19 #[.val (.ref a1), .val (.ref a2), .val (.ref a2)] [])) _
    refine st181 _ ?_
    show Steps p.tables e below (T181.setTop (mkF m 22 #[.val (.ref a1), .val (.ref a2), .val (.ref a2)] [(.int cw)])) _
    refine XS.ifNo X181.here hx rfl (hb hby own_d8_22) rfl ((if0 _ _).trans (feq hc22_182).1) ?_
    show Steps p.tables e below (T181.setTop (mkF m 25 #[.val (.ref a1), .val (.ref a2), .val (.ref a2)] [])) _
    refine XS.aloadN X181.here hx rfl (hb hby own_d8_25) rfl rfl ?_
    show Steps p.tables e below (T181.setTop (mkF m 26 #[.val (.ref a1), .val (.ref a2), .val (.ref a2)] [(.ref a1)])) _
    refine st183 _ ?_
    show Steps p.tables e below (T183.setTop (mkF m 29 #[.val (.ref a1), .val (.ref a2), .val (.ref a2)] [(.int (0 : Int32))])) _
    refine XS.aloadN X183.here hx rfl (hb hby own_d8_29) rfl rfl ?_
    show Steps p.tables e below (T183.setTop (mkF m 30 #[.val (.ref a1), .val (.ref a2), .val (.ref a2)] [(.ref a2), (.int (0 : Int32))])) _
    refine st184 _ ?_
    show Steps p.tables e below (T184.setTop (mkF m 33 #[.val (.ref a1), .val (.ref a2), .val (.ref a2)] [(.int (0 : Int32)), (.int (0 : Int32))])) _
    refine XS.icmpNo X184.here hx rfl (hb hby own_d8_33) rfl (teq (by decide : ((0 : Int32) = (0 : Int32)))).2 ?_
    show Steps p.tables e below (T184.setTop (mkF m 36 #[.val (.ref a1), .val (.ref a2), .val (.ref a2)] [])) _
    refine XS.aloadN X184.here hx rfl (hb hby own_d8_36) rfl rfl ?_
    show Steps p.tables e below (T184.setTop (mkF m 37 #[.val (.ref a1), .val (.ref a2), .val (.ref a2)] [(.ref a1)])) _
    refine st185 _ ?_
    show Steps p.tables e below (T185.setTop (mkF m 40 #[.val (.ref a1), .val (.ref a2), .val (.ref a2)] [(.ref b1)])) _
    refine XS.aloadN X185.here hx rfl (hb hby own_d8_40) rfl rfl ?_
    show Steps p.tables e below (T185.setTop (mkF m 41 #[.val (.ref a1), .val (.ref a2), .val (.ref a2)] [(.ref a2), (.ref b1)])) _
    refine st186 _ ?_
    show Steps p.tables e below (T186.setTop (mkF m 44 #[.val (.ref a1), .val (.ref a2), .val (.ref a2)] [(.ref b2), (.ref b1)])) _
    refine st187 _ ?_
    exact k
  by_cases hc47 : (own_eqL [u0, u1] []) = (0 : Int32)
  · obtain ⟨fs, hr, hrun, hended, hW, hsame⟩ := X187.leave (v := some (.int (0 : Int32))) (fun h => by rw [Bd.returns] at h; cases h)
    refine ⟨_, _, pre188 _ ?_, hrun, hended, _, _, rfl, ?_, ⟨_, rfl⟩, hW, hsame.mono (by decide) (by decide)⟩
    · show Steps p.tables e below (T187.setTop (mkF m 47 #[.val (.ref a1), .val (.ref a2), .val (.ref a2)] [(.int (own_eqL [u0, u1] []))])) _
      refine XS.ifYes X187.here hx rfl (pc0 := 47) (pc' := 54) rfl (hb hby own_d8_47) rfl ((if0 _ _).trans (teq hc47).1) (by decide) (by decide) ?_
      show Steps p.tables e below (T187.setTop (mkF m 54 #[.val (.ref a1), .val (.ref a2), .val (.ref a2)] [])) _
      refine XS.iconst X187.here hx rfl (hb hby own_d8_54) ?_
      show Steps p.tables e below (T187.setTop (mkF m 55 #[.val (.ref a1), .val (.ref a2), .val (.ref a2)] [(.int (0 : Int32))])) _
      exact retN X187 hx (t := .boolean) Bd.returns (by simp) (hb hby own_d8_55) hr
    · show QSE_20 Z a1 a2 cw b1 b2 k1 k2 u0 u1 h0 n0 _ T187.heap _
      rw [e187]
      exact ⟨(congrArg (fun z => some (Value.int z)) (hc47.symm : (0 : Int32) = (own_eqL [u0, u1] []))), N187, rfl⟩
  · obtain ⟨fs, hr, hrun, hended, hW, hsame⟩ := X187.leave (v := some (.int (1 : Int32))) (fun h => by rw [Bd.returns] at h; cases h)
    refine ⟨_, _, pre188 _ ?_, hrun, hended, _, _, rfl, ?_, ⟨_, rfl⟩, hW, hsame.mono (by decide) (by decide)⟩
    · show Steps p.tables e below (T187.setTop (mkF m 47 #[.val (.ref a1), .val (.ref a2), .val (.ref a2)] [(.int (own_eqL [u0, u1] []))])) _
      refine XS.ifNo X187.here hx rfl (hb hby own_d8_47) rfl ((if0 _ _).trans (feq hc47).1) ?_
      show Steps p.tables e below (T187.setTop (mkF m 50 #[.val (.ref a1), .val (.ref a2), .val (.ref a2)] [])) _
      refine XS.iconst X187.here hx rfl (hb hby own_d8_50) ?_
      show Steps p.tables e below (T187.setTop (mkF m 51 #[.val (.ref a1), .val (.ref a2), .val (.ref a2)] [(.int (1 : Int32))])) _
      refine XS.goto X187.here hx rfl (pc0 := 51) (pc' := 55) rfl (hb hby own_d8_51) (by decide) (by decide) ?_
      show Steps p.tables e below (T187.setTop (mkF m 55 #[.val (.ref a1), .val (.ref a2), .val (.ref a2)] [(.int (1 : Int32))])) _
      exact retN X187 hx (t := .boolean) Bd.returns (by simp) (hb hby own_d8_55) hr
    · show QSE_20 Z a1 a2 cw b1 b2 k1 k2 u0 u1 h0 n0 _ T187.heap _
      rw [e187]
      exact ⟨(congrArg (fun z => some (Value.int z)) ((own_eqL1 hc47).symm : (1 : Int32) = (own_eqL [u0, u1] []))), N187, rfl⟩
theorem own_ef_rmLE_21 (m : MethodId) (a1 : Addr) (a2 : Addr) : entryFrame m #[(.ref a1), (.ref a2)] 3 = mkF m 0 #[.val (.ref a1), .val (.ref a2), .unset] [] := by first | (simp [entryFrame, mkF, argsToLocals, Value.category]; done) | rfl
def QLE_21 (Z : State) (a1 : Addr) (a2 : Addr) (k1 : ClassId) (k2 : ClassId) (u0 : Int32) (u1 : Int32) (v0 : Int32) (h0 : Heap) (n0 : Nat) (v : Option Value) (h : Heap) (L : List Loc) : Prop := v = some (.int (own_eqL [u0, u1] [v0])) ∧ Fr n0 L ∧ h = h0
set_option maxRecDepth 65536 in
set_option maxHeartbeats 40000000 in
theorem rmLE_21 (l : Launch) (Z : State) (a0 : Array Value) (hw : ∀ d ∈ tables_1, d.before a0 Z = true) (ws : List Jvm.Cond) (a1 : Addr) (a2 : Addr) (k1 : ClassId) (k2 : ClassId) (u0 : Int32) (u1 : Int32) (v0 : Int32) (h0 : Heap) (n0 : Nat) (Z0 : n0 ≤ h0.size) (V_a1 : Arv Z h0 a1 k1 .byte (2 : Int32) [(.int u0), (.int u1)] (.int (0 : Int32))) (V_a2 : Arv Z h0 a2 k2 .byte (1 : Int32) [(.int v0)] (.int (0 : Int32))) :
    MetFree l (⟨"java/lang/StringLatin1", "equals", "([B[B)Z"⟩ : MethodName) (head1 (Jvm.Cond.code (⟨"java/lang/StringLatin1", "equals", "([B[B)Z"⟩ : MethodName) jdk_43_method_13_code 3 (some .boolean) :: ws) ({ frames := 0, cells := 0, slots := 0, locals := 0 } : Room)) (fun a U => a = #[(.ref a1), (.ref a2)] ∧ Z.Warmed39 U.vm ∧ U.heap = h0) (fun _ _ _ _ _ => True) (fun _ U o U' => ∃ v L, o = .returned v ∧ QLE_21 Z a1 a2 k1 k2 u0 u1 v0 h0 n0 v U'.heap L ∧ FrameEnd U o U' L ({ frames := 0, cells := 0, slots := 0, locals := 0 } : Room).cells ({ frames := 0, cells := 0, slots := 0, locals := 0 } : Room).slots) := by
  refine MetFree.of_bodySF (plainFor_of_name own_pn3) hisR ?_
  intro p e s m args below meth c s₁ Bd hml0 hP hK
  obtain ⟨rfl, hZ, hh⟩ := hP
  have hx := Bd.exec
  have hby := Bd.bytes
  have hml : c.maxLocals = 3 := hml0
  have hown : s.vm.findClass "java/lang/StringLatin1" = some m.cls := findClass_of_methodNamed Bd.named
  have hnm := (name_of_methodNamed Bd.named Bd.method).1
  have X0 : Stand p l e ({ frames := 0, cells := 0, slots := 0, locals := 0 } : Room) s m #[(.ref a1), (.ref a2)] below meth c s₁ [] 0 0 := Stand.of_body Bd
  have e0 : s₁.heap = h0 := by rw [← hh, Bd.state]; rfl
  have N0 := Fr.nil n0
  have K0 : Keep h0 h0 [] := Keep.refl h0 _
  have pre0 : ∀ t, Steps p.tables e below (s₁.setTop (mkF m 0 #[.val (.ref a1), .val (.ref a2), .unset] [])) t → Steps p.tables e below (s₁.setTop (entryFrame m #[(.ref a1), (.ref a2)] 3)) t := fun t k => castTop (own_ef_rmLE_21 m a1 a2) k
  obtain ⟨cl189, Ar189, q189, S189, M189, H189, G189⟩ := id V_a1
  obtain ⟨cl190, Ar190, q190, S190, M190, H190, G190⟩ := id V_a2
  obtain ⟨fs, hr, hrun, hended, hW, hsame⟩ := X0.leave (v := some (.int (0 : Int32))) (fun h => by rw [Bd.returns] at h; cases h)
  refine ⟨_, _, pre0 _ ?_, hrun, hended, _, _, rfl, ?_, ⟨_, rfl⟩, hW, hsame.mono (by decide) (by decide)⟩
  · show Steps p.tables e below (s₁.setTop (mkF m 0 #[.val (.ref a1), .val (.ref a2), .unset] [])) _
    refine XS.aloadN X0.here hx rfl (hb hby own_d9_0) rfl rfl ?_
    show Steps p.tables e below (s₁.setTop (mkF m 1 #[.val (.ref a1), .val (.ref a2), .unset] [(.ref a1)])) _
    refine X0.arraylength hx (by rw [e0]; exact Ar189.1) (State.isArrayOf_alike hZ.alike Ar189.2.1) (g := (mkF m 1 #[.val (.ref a1), .val (.ref a2), .unset] [(.ref a1)])) rfl rfl (hb hby own_d9_1) _ ?_
    rw [len_of S189 M189]
    show Steps p.tables e below (s₁.setTop (mkF m 2 #[.val (.ref a1), .val (.ref a2), .unset] [(.int (2 : Int32))])) _
    refine XS.aloadN X0.here hx rfl (hb hby own_d9_2) rfl rfl ?_
    show Steps p.tables e below (s₁.setTop (mkF m 3 #[.val (.ref a1), .val (.ref a2), .unset] [(.ref a2), (.int (2 : Int32))])) _
    refine X0.arraylength hx (by rw [e0]; exact Ar190.1) (State.isArrayOf_alike hZ.alike Ar190.2.1) (g := (mkF m 3 #[.val (.ref a1), .val (.ref a2), .unset] [(.ref a2), (.int (2 : Int32))])) rfl rfl (hb hby own_d9_3) _ ?_
    rw [len_of S190 M190]
    show Steps p.tables e below (s₁.setTop (mkF m 4 #[.val (.ref a1), .val (.ref a2), .unset] [(.int (1 : Int32)), (.int (2 : Int32))])) _
    refine XS.icmpYes X0.here hx rfl (pc0 := 4) (pc' := 34) rfl (hb hby own_d9_4) rfl (feq (by decide : ¬ ((2 : Int32) = (1 : Int32)))).2 (by decide) (by decide) ?_
    show Steps p.tables e below (s₁.setTop (mkF m 34 #[.val (.ref a1), .val (.ref a2), .unset] [])) _
    refine XS.iconst X0.here hx rfl (hb hby own_d9_34) ?_
    show Steps p.tables e below (s₁.setTop (mkF m 35 #[.val (.ref a1), .val (.ref a2), .unset] [(.int (0 : Int32))])) _
    exact retN X0 hx (t := .boolean) Bd.returns (by simp) (hb hby own_d9_35) hr
  · show QLE_21 Z a1 a2 k1 k2 u0 u1 v0 h0 n0 _ s₁.heap _
    rw [e0]
    exact ⟨(congrArg (fun z => some (Value.int z)) (by simp [own_eqL] : (0 : Int32) = (own_eqL [u0, u1] [v0]))), N0, rfl⟩
theorem own_ef_rmSE_21 (m : MethodId) (a1 : Addr) (a2 : Addr) : entryFrame m #[(.ref a1), (.ref a2)] 3 = mkF m 0 #[.val (.ref a1), .val (.ref a2), .unset] [] := by first | (simp [entryFrame, mkF, argsToLocals, Value.category]; done) | rfl
def QSE_21 (Z : State) (a1 : Addr) (a2 : Addr) (cw : Int32) (b1 : Addr) (b2 : Addr) (k1 : ClassId) (k2 : ClassId) (u0 : Int32) (u1 : Int32) (v0 : Int32) (h0 : Heap) (n0 : Nat) (v : Option Value) (h : Heap) (L : List Loc) : Prop := v = some (.int (own_eqL [u0, u1] [v0])) ∧ Fr n0 L ∧ h = h0
set_option maxRecDepth 65536 in
set_option maxHeartbeats 40000000 in
theorem rmSE_21 (l : Launch) (Z : State) (a0 : Array Value) (hw : ∀ d ∈ tables_1, d.before a0 Z = true) (ws : List Jvm.Cond) (a1 : Addr) (a2 : Addr) (cw : Int32) (b1 : Addr) (b2 : Addr) (k1 : ClassId) (k2 : ClassId) (u0 : Int32) (u1 : Int32) (v0 : Int32) (h0 : Heap) (n0 : Nat) (Z0 : n0 ≤ h0.size) (E_a2 : Exa Z h0 a2 "java/lang/String") (F_a1_coder : Fld Z h0 a1 "java/lang/String" "coder" "B" (.int (0 : Int32))) (F_a1_value : Fld Z h0 a1 "java/lang/String" "value" "[B" (.ref b1)) (F_a2_coder : Fld Z h0 a2 "java/lang/String" "coder" "B" (.int (0 : Int32))) (F_a2_value : Fld Z h0 a2 "java/lang/String" "value" "[B" (.ref b2)) (V_b1 : Arv Z h0 b1 k1 .byte (2 : Int32) [(.int u0), (.int u1)] (.int (0 : Int32))) (V_b2 : Arv Z h0 b2 k2 .byte (1 : Int32) [(.int v0)] (.int (0 : Int32))) (S_COMPACT_STRINGS : Sta Z h0 "java/lang/String" "COMPACT_STRINGS" "Z" (.int cw)) (hw0 : ¬ (cw = (0 : Int32))) (ne_a1_a2 : a1 ≠ a2) :
    MetFree l (⟨"java/lang/String", "equals", "(Ljava/lang/Object;)Z"⟩ : MethodName) (head1 (Jvm.Cond.code (⟨"java/lang/String", "equals", "(Ljava/lang/Object;)Z"⟩ : MethodName) jdk_42_method_66_code 3 (some .boolean) :: ws) ({ frames := 1, cells := 0, slots := 0, locals := 14 } : Room)) (fun a U => a = #[(.ref a1), (.ref a2)] ∧ Z.Warmed39 U.vm ∧ U.heap = h0) (fun _ _ _ _ _ => True) (fun _ U o U' => ∃ v L, o = .returned v ∧ QSE_21 Z a1 a2 cw b1 b2 k1 k2 u0 u1 v0 h0 n0 v U'.heap L ∧ FrameEnd U o U' L ({ frames := 1, cells := 0, slots := 0, locals := 14 } : Room).cells ({ frames := 1, cells := 0, slots := 0, locals := 14 } : Room).slots) := by
  refine MetFree.of_bodySF (plainFor_of_name own_pn1) hisR ?_
  intro p e s m args below meth c s₁ Bd hml0 hP hK
  obtain ⟨rfl, hZ, hh⟩ := hP
  have hx := Bd.exec
  have hby := Bd.bytes
  have hml : c.maxLocals = 3 := hml0
  have hown : s.vm.findClass "java/lang/String" = some m.cls := findClass_of_methodNamed Bd.named
  have hnm := (name_of_methodNamed Bd.named Bd.method).1
  have X0 : Stand p l e ({ frames := 1, cells := 0, slots := 0, locals := 14 } : Room) s m #[(.ref a1), (.ref a2)] below meth c s₁ [] 0 0 := Stand.of_body Bd
  have e0 : s₁.heap = h0 := by rw [← hh, Bd.state]; rfl
  have N0 := Fr.nil n0
  have K0 : Keep h0 h0 [] := Keep.refl h0 _
  have pre0 : ∀ t, Steps p.tables e below (s₁.setTop (mkF m 0 #[.val (.ref a1), .val (.ref a2), .unset] [])) t → Steps p.tables e below (s₁.setTop (entryFrame m #[(.ref a1), (.ref a2)] 3)) t := fun t k => castTop (own_ef_rmSE_21 m a1 a2) k
  obtain ⟨T191, X191, e191, st191⟩ := instY X0 hx hZ hown (hw _ (List.mem_of_getElem? (i := 52) rfl)) e0 (Ins.self E_a2) (g := (mkF m 8 #[.val (.ref a1), .val (.ref a2), .unset] [(.ref a2)])) rfl rfl (hb hby own_d8_8)
  obtain ⟨T192, X192, e192, st192⟩ := castY X191 hx hZ hown (hw _ (List.mem_of_getElem? (i := 52) rfl)) e191 (Ins.self E_a2) (g := (mkF m 15 #[.val (.ref a1), .val (.ref a2), .unset] [(.ref a2)])) rfl rfl (hb hby own_d8_15)
  obtain ⟨T193, X193, e193, st193⟩ := getS2 X192 hx hZ hown (host := "") (Or.inl (hw _ (List.mem_of_getElem? (i := 53) rfl))) Via.refl e192 S_COMPACT_STRINGS (g := (mkF m 19 #[.val (.ref a1), .val (.ref a2), .val (.ref a2)] [])) rfl (hb hby own_d8_19)
  have hc22_194 : ¬ (cw = (0 : Int32)) := hw0
  obtain ⟨T195, X195, e195, st195⟩ := getF X193 hx hZ hown (host := "") (Or.inl (hw _ (List.mem_of_getElem? (i := 28) rfl))) Via.refl e193 F_a1_coder (g := (mkF m 26 #[.val (.ref a1), .val (.ref a2), .val (.ref a2)] [(.ref a1)])) rfl rfl (hb hby own_d8_26)
  obtain ⟨T196, X196, e196, st196⟩ := getF X195 hx hZ hown (host := "") (Or.inl (hw _ (List.mem_of_getElem? (i := 28) rfl))) Via.refl e195 F_a2_coder (g := (mkF m 30 #[.val (.ref a1), .val (.ref a2), .val (.ref a2)] [(.ref a2), (.int (0 : Int32))])) rfl rfl (hb hby own_d8_30)
  obtain ⟨T197, X197, e197, st197⟩ := getF X196 hx hZ hown (host := "") (Or.inl (hw _ (List.mem_of_getElem? (i := 27) rfl))) Via.refl e196 F_a1_value (g := (mkF m 37 #[.val (.ref a1), .val (.ref a2), .val (.ref a2)] [(.ref a1)])) rfl rfl (hb hby own_d8_37)
  obtain ⟨T198, X198, e198, st198⟩ := getF X197 hx hZ hown (host := "") (Or.inl (hw _ (List.mem_of_getElem? (i := 27) rfl))) Via.refl e197 F_a2_value (g := (mkF m 41 #[.val (.ref a1), .val (.ref a2), .val (.ref a2)] [(.ref a2), (.ref b1)])) rfl rfl (hb hby own_d8_41)
  obtain ⟨_, _, ⟨T199, L199, k199, n199⟩, -, X199, ⟨Lc199, hQ199, l199, y199, z199⟩, st199⟩ := Jvm.LawKit.callS X198 hx (y := (⟨"java/lang/StringLatin1", "equals", "([B[B)Z"⟩ : MethodName)) hown (mvT hZ (hw _ (List.mem_of_getElem? (i := 54) rfl))) (mvT hZ (hw _ (List.mem_of_getElem? (i := 55) rfl))) (mvT hZ (hw _ (List.mem_of_getElem? (i := 56) rfl))) (mvT hZ (hw _ (List.mem_of_getElem? (i := 57) rfl))) (by decide) (backOf (W := 0) (rmLE_21 l Z a0 hw [] b1 b2 k1 k2 u0 u1 v0 h0 n0 (Nat.le_trans Z0 K0.1) V_b1 V_b2) hZ (hw _ (List.mem_of_getElem? (i := 57) rfl)) (hw _ (List.mem_of_getElem? (i := 56) rfl)) (by decide) (by decide)) (g := (mkF m 44 #[.val (.ref a1), .val (.ref a2), .val (.ref a2)] [(.ref b2), (.ref b1)])) rfl (by rw [hml]; rfl) (argsL := [(.ref b1), (.ref b2)]) (rest := []) (lenOf own_pd5 rfl) rfl (by show 2 * 0 + _ ≤ _; exact Nat.le_of_eq rfl) (hb hby own_d8_44) (fun _ _ => ⟨rfl, e198, (by decide : 0 + 0 ≤ _), (by decide : 0 + 0 ≤ _)⟩)
  dsimp only [Pt.U, Pt.locs, Pt.cells, Pt.slots] at X199 l199 y199 z199 st199 hQ199
  subst l199 y199 z199
  obtain ⟨rfl, N199q, e199⟩ := hQ199
  have N199 := Fr.app N0 N199q
  have pre200 : ∀ t, Steps p.tables e below (T199.setTop (mkF m 47 #[.val (.ref a1), .val (.ref a2), .val (.ref a2)] [(.int (own_eqL [u0, u1] [v0]))])) t → Steps p.tables e below (s₁.setTop (entryFrame m #[(.ref a1), (.ref a2)] 3)) t := fun t k => by
    refine pre0 _ ?_
    show Steps p.tables e below (s₁.setTop (mkF m 0 #[.val (.ref a1), .val (.ref a2), .unset] [])) _
    refine XS.aloadN X0.here hx rfl (hb hby own_d8_0) rfl rfl ?_
    show Steps p.tables e below (s₁.setTop (mkF m 1 #[.val (.ref a1), .val (.ref a2), .unset] [(.ref a1)])) _
    refine XS.aloadN X0.here hx rfl (hb hby own_d8_1) rfl rfl ?_
    show Steps p.tables e below (s₁.setTop (mkF m 2 #[.val (.ref a1), .val (.ref a2), .unset] [(.ref a2), (.ref a1)])) _
    refine Jvm.RoadKit.acmp (g := (mkF m 2 #[.val (.ref a1), .val (.ref a2), .unset] [(.ref a2), (.ref a1)])) X0 hx rfl rfl rfl (pc0 := 2) (pc' := 7) (same := false) rfl (hb hby own_d8_2) rfl (decide_eq_false fun q => ne_a1_a2 (Value.ref.inj q)) (by decide) (by decide) ?_
    show Steps p.tables e below (s₁.setTop (mkF m 7 #[.val (.ref a1), .val (.ref a2), .unset] [])) _
    refine XS.aloadN X0.here hx rfl (hb hby own_d8_7) rfl rfl ?_
    show Steps p.tables e below (s₁.setTop (mkF m 8 #[.val (.ref a1), .val (.ref a2), .unset] [(.ref a2)])) _
    refine st191 _ ?_
    show Steps p.tables e below (T191.setTop (mkF m 11 #[.val (.ref a1), .val (.ref a2), .unset] [(.int (1 : Int32))])) _
    refine XS.ifNo X191.here hx rfl (hb hby own_d8_11) rfl ((if0 _ _).trans (feq (by decide : ¬ ((1 : Int32) = (0 : Int32)))).1) ?_
    show Steps p.tables e below (T191.setTop (mkF m 14 #[.val (.ref a1), .val (.ref a2), .unset] [])) _
    refine XS.aloadN X191.here hx rfl (hb hby own_d8_14) rfl rfl ?_
    show Steps p.tables e below (T191.setTop (mkF m 15 #[.val (.ref a1), .val (.ref a2), .unset] [(.ref a2)])) _
    refine st192 _ ?_
    show Steps p.tables e below (T192.setTop (mkF m 18 #[.val (.ref a1), .val (.ref a2), .unset] [(.ref a2)])) _
    refine XS.astoreN X192.here hx rfl (hb hby own_d8_18) rfl rfl (l' := #[.val (.ref a1), .val (.ref a2), .val (.ref a2)]) rfl ?_
    show Steps p.tables e below (T192.setTop (mkF m 19 #[.val (.ref a1), .val (.ref a2), .val (.ref a2)] [])) _
    refine st193 _ ?_
    show Steps p.tables e below (T193.setTop (mkF m 22 #[.val (.ref a1), .val (.ref a2), .val (.ref a2)] [(.int cw)])) _
    refine XS.ifNo X193.here hx rfl (hb hby own_d8_22) rfl ((if0 _ _).trans (feq hc22_194).1) ?_
    show Steps p.tables e below (T193.setTop (mkF m 25 #[.val (.ref a1), .val (.ref a2), .val (.ref a2)] [])) _
    refine XS.aloadN X193.here hx rfl (hb hby own_d8_25) rfl rfl ?_
    show Steps p.tables e below (T193.setTop (mkF m 26 #[.val (.ref a1), .val (.ref a2), .val (.ref a2)] [(.ref a1)])) _
    refine st195 _ ?_
    show Steps p.tables e below (T195.setTop (mkF m 29 #[.val (.ref a1), .val (.ref a2), .val (.ref a2)] [(.int (0 : Int32))])) _
    refine XS.aloadN X195.here hx rfl (hb hby own_d8_29) rfl rfl ?_
    show Steps p.tables e below (T195.setTop (mkF m 30 #[.val (.ref a1), .val (.ref a2), .val (.ref a2)] [(.ref a2), (.int (0 : Int32))])) _
    refine st196 _ ?_
    show Steps p.tables e below (T196.setTop (mkF m 33 #[.val (.ref a1), .val (.ref a2), .val (.ref a2)] [(.int (0 : Int32)), (.int (0 : Int32))])) _
    refine XS.icmpNo X196.here hx rfl (hb hby own_d8_33) rfl (teq (by decide : ((0 : Int32) = (0 : Int32)))).2 ?_
    show Steps p.tables e below (T196.setTop (mkF m 36 #[.val (.ref a1), .val (.ref a2), .val (.ref a2)] [])) _
    refine XS.aloadN X196.here hx rfl (hb hby own_d8_36) rfl rfl ?_
    show Steps p.tables e below (T196.setTop (mkF m 37 #[.val (.ref a1), .val (.ref a2), .val (.ref a2)] [(.ref a1)])) _
    refine st197 _ ?_
    show Steps p.tables e below (T197.setTop (mkF m 40 #[.val (.ref a1), .val (.ref a2), .val (.ref a2)] [(.ref b1)])) _
    refine XS.aloadN X197.here hx rfl (hb hby own_d8_40) rfl rfl ?_
    show Steps p.tables e below (T197.setTop (mkF m 41 #[.val (.ref a1), .val (.ref a2), .val (.ref a2)] [(.ref a2), (.ref b1)])) _
    refine st198 _ ?_
    show Steps p.tables e below (T198.setTop (mkF m 44 #[.val (.ref a1), .val (.ref a2), .val (.ref a2)] [(.ref b2), (.ref b1)])) _
    refine st199 _ ?_
    exact k
  by_cases hc47 : (own_eqL [u0, u1] [v0]) = (0 : Int32)
  · obtain ⟨fs, hr, hrun, hended, hW, hsame⟩ := X199.leave (v := some (.int (0 : Int32))) (fun h => by rw [Bd.returns] at h; cases h)
    refine ⟨_, _, pre200 _ ?_, hrun, hended, _, _, rfl, ?_, ⟨_, rfl⟩, hW, hsame.mono (by decide) (by decide)⟩
    · show Steps p.tables e below (T199.setTop (mkF m 47 #[.val (.ref a1), .val (.ref a2), .val (.ref a2)] [(.int (own_eqL [u0, u1] [v0]))])) _
      refine XS.ifYes X199.here hx rfl (pc0 := 47) (pc' := 54) rfl (hb hby own_d8_47) rfl ((if0 _ _).trans (teq hc47).1) (by decide) (by decide) ?_
      show Steps p.tables e below (T199.setTop (mkF m 54 #[.val (.ref a1), .val (.ref a2), .val (.ref a2)] [])) _
      refine XS.iconst X199.here hx rfl (hb hby own_d8_54) ?_
      show Steps p.tables e below (T199.setTop (mkF m 55 #[.val (.ref a1), .val (.ref a2), .val (.ref a2)] [(.int (0 : Int32))])) _
      exact retN X199 hx (t := .boolean) Bd.returns (by simp) (hb hby own_d8_55) hr
    · show QSE_21 Z a1 a2 cw b1 b2 k1 k2 u0 u1 v0 h0 n0 _ T199.heap _
      rw [e199]
      exact ⟨(congrArg (fun z => some (Value.int z)) (hc47.symm : (0 : Int32) = (own_eqL [u0, u1] [v0]))), N199, rfl⟩
  · obtain ⟨fs, hr, hrun, hended, hW, hsame⟩ := X199.leave (v := some (.int (1 : Int32))) (fun h => by rw [Bd.returns] at h; cases h)
    refine ⟨_, _, pre200 _ ?_, hrun, hended, _, _, rfl, ?_, ⟨_, rfl⟩, hW, hsame.mono (by decide) (by decide)⟩
    · show Steps p.tables e below (T199.setTop (mkF m 47 #[.val (.ref a1), .val (.ref a2), .val (.ref a2)] [(.int (own_eqL [u0, u1] [v0]))])) _
      refine XS.ifNo X199.here hx rfl (hb hby own_d8_47) rfl ((if0 _ _).trans (feq hc47).1) ?_
      show Steps p.tables e below (T199.setTop (mkF m 50 #[.val (.ref a1), .val (.ref a2), .val (.ref a2)] [])) _
      refine XS.iconst X199.here hx rfl (hb hby own_d8_50) ?_
      show Steps p.tables e below (T199.setTop (mkF m 51 #[.val (.ref a1), .val (.ref a2), .val (.ref a2)] [(.int (1 : Int32))])) _
      refine XS.goto X199.here hx rfl (pc0 := 51) (pc' := 55) rfl (hb hby own_d8_51) (by decide) (by decide) ?_
      show Steps p.tables e below (T199.setTop (mkF m 55 #[.val (.ref a1), .val (.ref a2), .val (.ref a2)] [(.int (1 : Int32))])) _
      exact retN X199 hx (t := .boolean) Bd.returns (by simp) (hb hby own_d8_55) hr
    · show QSE_21 Z a1 a2 cw b1 b2 k1 k2 u0 u1 v0 h0 n0 _ T199.heap _
      rw [e199]
      exact ⟨(congrArg (fun z => some (Value.int z)) ((own_eqL1 hc47).symm : (1 : Int32) = (own_eqL [u0, u1] [v0]))), N199, rfl⟩
theorem own_ef_rmLE_22 (m : MethodId) (a1 : Addr) (a2 : Addr) : entryFrame m #[(.ref a1), (.ref a2)] 3 = mkF m 0 #[.val (.ref a1), .val (.ref a2), .unset] [] := by first | (simp [entryFrame, mkF, argsToLocals, Value.category]; done) | rfl
def QLE_22 (Z : State) (a1 : Addr) (a2 : Addr) (k1 : ClassId) (k2 : ClassId) (u0 : Int32) (u1 : Int32) (v0 : Int32) (v1 : Int32) (h0 : Heap) (n0 : Nat) (v : Option Value) (h : Heap) (L : List Loc) : Prop := v = some (.int (own_eqL [u0, u1] [v0, v1])) ∧ Fr n0 L ∧ h = h0
set_option maxRecDepth 65536 in
set_option maxHeartbeats 40000000 in
theorem rmLE_22 (l : Launch) (Z : State) (a0 : Array Value) (hw : ∀ d ∈ tables_1, d.before a0 Z = true) (ws : List Jvm.Cond) (a1 : Addr) (a2 : Addr) (k1 : ClassId) (k2 : ClassId) (u0 : Int32) (u1 : Int32) (v0 : Int32) (v1 : Int32) (h0 : Heap) (n0 : Nat) (Z0 : n0 ≤ h0.size) (V_a1 : Arv Z h0 a1 k1 .byte (2 : Int32) [(.int u0), (.int u1)] (.int (0 : Int32))) (V_a2 : Arv Z h0 a2 k2 .byte (2 : Int32) [(.int v0), (.int v1)] (.int (0 : Int32))) :
    MetFree l (⟨"java/lang/StringLatin1", "equals", "([B[B)Z"⟩ : MethodName) (head1 (Jvm.Cond.code (⟨"java/lang/StringLatin1", "equals", "([B[B)Z"⟩ : MethodName) jdk_43_method_13_code 3 (some .boolean) :: ws) ({ frames := 0, cells := 0, slots := 0, locals := 0 } : Room)) (fun a U => a = #[(.ref a1), (.ref a2)] ∧ Z.Warmed39 U.vm ∧ U.heap = h0) (fun _ _ _ _ _ => True) (fun _ U o U' => ∃ v L, o = .returned v ∧ QLE_22 Z a1 a2 k1 k2 u0 u1 v0 v1 h0 n0 v U'.heap L ∧ FrameEnd U o U' L ({ frames := 0, cells := 0, slots := 0, locals := 0 } : Room).cells ({ frames := 0, cells := 0, slots := 0, locals := 0 } : Room).slots) := by
  refine MetFree.of_bodySF (plainFor_of_name own_pn3) hisR ?_
  intro p e s m args below meth c s₁ Bd hml0 hP hK
  obtain ⟨rfl, hZ, hh⟩ := hP
  have hx := Bd.exec
  have hby := Bd.bytes
  have hml : c.maxLocals = 3 := hml0
  have hown : s.vm.findClass "java/lang/StringLatin1" = some m.cls := findClass_of_methodNamed Bd.named
  have hnm := (name_of_methodNamed Bd.named Bd.method).1
  have X0 : Stand p l e ({ frames := 0, cells := 0, slots := 0, locals := 0 } : Room) s m #[(.ref a1), (.ref a2)] below meth c s₁ [] 0 0 := Stand.of_body Bd
  have e0 : s₁.heap = h0 := by rw [← hh, Bd.state]; rfl
  have N0 := Fr.nil n0
  have K0 : Keep h0 h0 [] := Keep.refl h0 _
  have pre0 : ∀ t, Steps p.tables e below (s₁.setTop (mkF m 0 #[.val (.ref a1), .val (.ref a2), .unset] [])) t → Steps p.tables e below (s₁.setTop (entryFrame m #[(.ref a1), (.ref a2)] 3)) t := fun t k => castTop (own_ef_rmLE_22 m a1 a2) k
  obtain ⟨cl201, Ar201, q201, S201, M201, H201, G201⟩ := id V_a1
  obtain ⟨cl202, Ar202, q202, S202, M202, H202, G202⟩ := id V_a2
  obtain ⟨cl203, Ar203, q203, S203, M203, H203, G203⟩ := id V_a1
  obtain ⟨cl204, Ar204, q204, S204, M204, H204, G204⟩ := id V_a1
  have hin204 : ¬ ((0 : Int32) < 0 ∨ cl204.slots.size ≤ ((0 : Int32)).toNatClampNeg) := inb_of S204 ⟨by decide, by decide⟩
  have hat204 : cl204.slots[((0 : Int32)).toNatClampNeg]? = some (.int u0) := Has.at H204 hin204 rfl
  obtain ⟨cl205, Ar205, q205, S205, M205, H205, G205⟩ := id V_a2
  have hin205 : ¬ ((0 : Int32) < 0 ∨ cl205.slots.size ≤ ((0 : Int32)).toNatClampNeg) := inb_of S205 ⟨by decide, by decide⟩
  have hat205 : cl205.slots[((0 : Int32)).toNatClampNeg]? = some (.int v0) := Has.at H205 hin205 rfl
  have pre206 : ∀ t, Steps p.tables e below (s₁.setTop (mkF m 21 #[.val (.ref a1), .val (.ref a2), .val (.int (0 : Int32))] [(.int v0), (.int u0)])) t → Steps p.tables e below (s₁.setTop (entryFrame m #[(.ref a1), (.ref a2)] 3)) t := fun t k => by
    refine pre0 _ ?_
    show Steps p.tables e below (s₁.setTop (mkF m 0 #[.val (.ref a1), .val (.ref a2), .unset] [])) _
    refine XS.aloadN X0.here hx rfl (hb hby own_d9_0) rfl rfl ?_
    show Steps p.tables e below (s₁.setTop (mkF m 1 #[.val (.ref a1), .val (.ref a2), .unset] [(.ref a1)])) _
    refine X0.arraylength hx (by rw [e0]; exact Ar201.1) (State.isArrayOf_alike hZ.alike Ar201.2.1) (g := (mkF m 1 #[.val (.ref a1), .val (.ref a2), .unset] [(.ref a1)])) rfl rfl (hb hby own_d9_1) _ ?_
    rw [len_of S201 M201]
    show Steps p.tables e below (s₁.setTop (mkF m 2 #[.val (.ref a1), .val (.ref a2), .unset] [(.int (2 : Int32))])) _
    refine XS.aloadN X0.here hx rfl (hb hby own_d9_2) rfl rfl ?_
    show Steps p.tables e below (s₁.setTop (mkF m 3 #[.val (.ref a1), .val (.ref a2), .unset] [(.ref a2), (.int (2 : Int32))])) _
    refine X0.arraylength hx (by rw [e0]; exact Ar202.1) (State.isArrayOf_alike hZ.alike Ar202.2.1) (g := (mkF m 3 #[.val (.ref a1), .val (.ref a2), .unset] [(.ref a2), (.int (2 : Int32))])) rfl rfl (hb hby own_d9_3) _ ?_
    rw [len_of S202 M202]
    show Steps p.tables e below (s₁.setTop (mkF m 4 #[.val (.ref a1), .val (.ref a2), .unset] [(.int (2 : Int32)), (.int (2 : Int32))])) _
    refine XS.icmpNo X0.here hx rfl (hb hby own_d9_4) rfl (teq (by decide : ((2 : Int32) = (2 : Int32)))).2 ?_
    show Steps p.tables e below (s₁.setTop (mkF m 7 #[.val (.ref a1), .val (.ref a2), .unset] [])) _
    refine XS.iconst X0.here hx rfl (hb hby own_d9_7) ?_
    show Steps p.tables e below (s₁.setTop (mkF m 8 #[.val (.ref a1), .val (.ref a2), .unset] [(.int (0 : Int32))])) _
    refine XS.istoreN X0.here hx rfl (hb hby own_d9_8) rfl (l' := #[.val (.ref a1), .val (.ref a2), .val (.int (0 : Int32))]) rfl ?_
    show Steps p.tables e below (s₁.setTop (mkF m 9 #[.val (.ref a1), .val (.ref a2), .val (.int (0 : Int32))] [])) _
    refine XS.iloadN X0.here hx rfl (hb hby own_d9_9) rfl ?_
    show Steps p.tables e below (s₁.setTop (mkF m 10 #[.val (.ref a1), .val (.ref a2), .val (.int (0 : Int32))] [(.int (0 : Int32))])) _
    refine XS.aloadN X0.here hx rfl (hb hby own_d9_10) rfl rfl ?_
    show Steps p.tables e below (s₁.setTop (mkF m 11 #[.val (.ref a1), .val (.ref a2), .val (.int (0 : Int32))] [(.ref a1), (.int (0 : Int32))])) _
    refine X0.arraylength hx (by rw [e0]; exact Ar203.1) (State.isArrayOf_alike hZ.alike Ar203.2.1) (g := (mkF m 11 #[.val (.ref a1), .val (.ref a2), .val (.int (0 : Int32))] [(.ref a1), (.int (0 : Int32))])) rfl rfl (hb hby own_d9_11) _ ?_
    rw [len_of S203 M203]
    show Steps p.tables e below (s₁.setTop (mkF m 12 #[.val (.ref a1), .val (.ref a2), .val (.int (0 : Int32))] [(.int (2 : Int32)), (.int (0 : Int32))])) _
    refine XS.icmpNo X0.here hx rfl (hb hby own_d9_12) rfl (tlt (by decide : ((0 : Int32) < (2 : Int32)))).2.1 ?_
    show Steps p.tables e below (s₁.setTop (mkF m 15 #[.val (.ref a1), .val (.ref a2), .val (.int (0 : Int32))] [])) _
    refine XS.aloadN X0.here hx rfl (hb hby own_d9_15) rfl rfl ?_
    show Steps p.tables e below (s₁.setTop (mkF m 16 #[.val (.ref a1), .val (.ref a2), .val (.int (0 : Int32))] [(.ref a1)])) _
    refine XS.iloadN X0.here hx rfl (hb hby own_d9_16) rfl ?_
    show Steps p.tables e below (s₁.setTop (mkF m 17 #[.val (.ref a1), .val (.ref a2), .val (.int (0 : Int32))] [(.int (0 : Int32)), (.ref a1)])) _
    refine X0.baloadBytes hx (j := (0 : Int32)) (v := (.int u0)) (by rw [e0]; exact Ar204.1) (State.isArrayOf_alike hZ.alike Ar204.2.1) Ar204.2.2 hin204 hat204 (g := (mkF m 17 #[.val (.ref a1), .val (.ref a2), .val (.int (0 : Int32))] [(.int (0 : Int32)), (.ref a1)])) rfl rfl (hb hby own_d9_17) _ ?_
    show Steps p.tables e below (s₁.setTop (mkF m 18 #[.val (.ref a1), .val (.ref a2), .val (.int (0 : Int32))] [(.int u0)])) _
    refine XS.aloadN X0.here hx rfl (hb hby own_d9_18) rfl rfl ?_
    show Steps p.tables e below (s₁.setTop (mkF m 19 #[.val (.ref a1), .val (.ref a2), .val (.int (0 : Int32))] [(.ref a2), (.int u0)])) _
    refine XS.iloadN X0.here hx rfl (hb hby own_d9_19) rfl ?_
    show Steps p.tables e below (s₁.setTop (mkF m 20 #[.val (.ref a1), .val (.ref a2), .val (.int (0 : Int32))] [(.int (0 : Int32)), (.ref a2), (.int u0)])) _
    refine X0.baloadBytes hx (j := (0 : Int32)) (v := (.int v0)) (by rw [e0]; exact Ar205.1) (State.isArrayOf_alike hZ.alike Ar205.2.1) Ar205.2.2 hin205 hat205 (g := (mkF m 20 #[.val (.ref a1), .val (.ref a2), .val (.int (0 : Int32))] [(.int (0 : Int32)), (.ref a2), (.int u0)])) rfl rfl (hb hby own_d9_20) _ ?_
    exact k
  by_cases hc21 : u0 = v0
  · obtain ⟨cl207, Ar207, q207, S207, M207, H207, G207⟩ := id V_a1
    obtain ⟨cl208, Ar208, q208, S208, M208, H208, G208⟩ := id V_a1
    have hin208 : ¬ ((1 : Int32) < 0 ∨ cl208.slots.size ≤ ((1 : Int32)).toNatClampNeg) := inb_of S208 ⟨by decide, by decide⟩
    have hat208 : cl208.slots[((1 : Int32)).toNatClampNeg]? = some (.int u1) := Has.at H208 hin208 rfl
    obtain ⟨cl209, Ar209, q209, S209, M209, H209, G209⟩ := id V_a2
    have hin209 : ¬ ((1 : Int32) < 0 ∨ cl209.slots.size ≤ ((1 : Int32)).toNatClampNeg) := inb_of S209 ⟨by decide, by decide⟩
    have hat209 : cl209.slots[((1 : Int32)).toNatClampNeg]? = some (.int v1) := Has.at H209 hin209 rfl
    have pre210 : ∀ t, Steps p.tables e below (s₁.setTop (mkF m 21 #[.val (.ref a1), .val (.ref a2), .val (.int (1 : Int32))] [(.int v1), (.int u1)])) t → Steps p.tables e below (s₁.setTop (entryFrame m #[(.ref a1), (.ref a2)] 3)) t := fun t k => by
      refine pre206 _ ?_
      show Steps p.tables e below (s₁.setTop (mkF m 21 #[.val (.ref a1), .val (.ref a2), .val (.int (0 : Int32))] [(.int v0), (.int u0)])) _
      refine XS.icmpYes X0.here hx rfl (pc0 := 21) (pc' := 26) rfl (hb hby own_d9_21) rfl (teq hc21).1 (by decide) (by decide) ?_
      show Steps p.tables e below (s₁.setTop (mkF m 26 #[.val (.ref a1), .val (.ref a2), .val (.int (0 : Int32))] [])) _
      refine XS.iinc X0.here hx rfl (hb hby own_d9_26) rfl (l' := #[.val (.ref a1), .val (.ref a2), .val (.int (1 : Int32))]) rfl ?_
      show Steps p.tables e below (s₁.setTop (mkF m 29 #[.val (.ref a1), .val (.ref a2), .val (.int (1 : Int32))] [])) _
      refine XS.goto X0.here hx rfl (pc0 := 29) (pc' := 9) rfl (hb hby own_d9_29) (by decide) (by decide) ?_
      show Steps p.tables e below (s₁.setTop (mkF m 9 #[.val (.ref a1), .val (.ref a2), .val (.int (1 : Int32))] [])) _
      refine XS.iloadN X0.here hx rfl (hb hby own_d9_9) rfl ?_
      show Steps p.tables e below (s₁.setTop (mkF m 10 #[.val (.ref a1), .val (.ref a2), .val (.int (1 : Int32))] [(.int (1 : Int32))])) _
      refine XS.aloadN X0.here hx rfl (hb hby own_d9_10) rfl rfl ?_
      show Steps p.tables e below (s₁.setTop (mkF m 11 #[.val (.ref a1), .val (.ref a2), .val (.int (1 : Int32))] [(.ref a1), (.int (1 : Int32))])) _
      refine X0.arraylength hx (by rw [e0]; exact Ar207.1) (State.isArrayOf_alike hZ.alike Ar207.2.1) (g := (mkF m 11 #[.val (.ref a1), .val (.ref a2), .val (.int (1 : Int32))] [(.ref a1), (.int (1 : Int32))])) rfl rfl (hb hby own_d9_11) _ ?_
      rw [len_of S207 M207]
      show Steps p.tables e below (s₁.setTop (mkF m 12 #[.val (.ref a1), .val (.ref a2), .val (.int (1 : Int32))] [(.int (2 : Int32)), (.int (1 : Int32))])) _
      refine XS.icmpNo X0.here hx rfl (hb hby own_d9_12) rfl (tlt (by decide : ((1 : Int32) < (2 : Int32)))).2.1 ?_
      show Steps p.tables e below (s₁.setTop (mkF m 15 #[.val (.ref a1), .val (.ref a2), .val (.int (1 : Int32))] [])) _
      refine XS.aloadN X0.here hx rfl (hb hby own_d9_15) rfl rfl ?_
      show Steps p.tables e below (s₁.setTop (mkF m 16 #[.val (.ref a1), .val (.ref a2), .val (.int (1 : Int32))] [(.ref a1)])) _
      refine XS.iloadN X0.here hx rfl (hb hby own_d9_16) rfl ?_
      show Steps p.tables e below (s₁.setTop (mkF m 17 #[.val (.ref a1), .val (.ref a2), .val (.int (1 : Int32))] [(.int (1 : Int32)), (.ref a1)])) _
      refine X0.baloadBytes hx (j := (1 : Int32)) (v := (.int u1)) (by rw [e0]; exact Ar208.1) (State.isArrayOf_alike hZ.alike Ar208.2.1) Ar208.2.2 hin208 hat208 (g := (mkF m 17 #[.val (.ref a1), .val (.ref a2), .val (.int (1 : Int32))] [(.int (1 : Int32)), (.ref a1)])) rfl rfl (hb hby own_d9_17) _ ?_
      show Steps p.tables e below (s₁.setTop (mkF m 18 #[.val (.ref a1), .val (.ref a2), .val (.int (1 : Int32))] [(.int u1)])) _
      refine XS.aloadN X0.here hx rfl (hb hby own_d9_18) rfl rfl ?_
      show Steps p.tables e below (s₁.setTop (mkF m 19 #[.val (.ref a1), .val (.ref a2), .val (.int (1 : Int32))] [(.ref a2), (.int u1)])) _
      refine XS.iloadN X0.here hx rfl (hb hby own_d9_19) rfl ?_
      show Steps p.tables e below (s₁.setTop (mkF m 20 #[.val (.ref a1), .val (.ref a2), .val (.int (1 : Int32))] [(.int (1 : Int32)), (.ref a2), (.int u1)])) _
      refine X0.baloadBytes hx (j := (1 : Int32)) (v := (.int v1)) (by rw [e0]; exact Ar209.1) (State.isArrayOf_alike hZ.alike Ar209.2.1) Ar209.2.2 hin209 hat209 (g := (mkF m 20 #[.val (.ref a1), .val (.ref a2), .val (.int (1 : Int32))] [(.int (1 : Int32)), (.ref a2), (.int u1)])) rfl rfl (hb hby own_d9_20) _ ?_
      exact k
    by_cases hc21_211 : u1 = v1
    · obtain ⟨cl212, Ar212, q212, S212, M212, H212, G212⟩ := id V_a1
      obtain ⟨fs, hr, hrun, hended, hW, hsame⟩ := X0.leave (v := some (.int (1 : Int32))) (fun h => by rw [Bd.returns] at h; cases h)
      refine ⟨_, _, pre210 _ ?_, hrun, hended, _, _, rfl, ?_, ⟨_, rfl⟩, hW, hsame.mono (by decide) (by decide)⟩
      · show Steps p.tables e below (s₁.setTop (mkF m 21 #[.val (.ref a1), .val (.ref a2), .val (.int (1 : Int32))] [(.int v1), (.int u1)])) _
        refine XS.icmpYes X0.here hx rfl (pc0 := 21) (pc' := 26) rfl (hb hby own_d9_21) rfl (teq hc21_211).1 (by decide) (by decide) ?_
        show Steps p.tables e below (s₁.setTop (mkF m 26 #[.val (.ref a1), .val (.ref a2), .val (.int (1 : Int32))] [])) _
        refine XS.iinc X0.here hx rfl (hb hby own_d9_26) rfl (l' := #[.val (.ref a1), .val (.ref a2), .val (.int (2 : Int32))]) rfl ?_
        show Steps p.tables e below (s₁.setTop (mkF m 29 #[.val (.ref a1), .val (.ref a2), .val (.int (2 : Int32))] [])) _
        refine XS.goto X0.here hx rfl (pc0 := 29) (pc' := 9) rfl (hb hby own_d9_29) (by decide) (by decide) ?_
        show Steps p.tables e below (s₁.setTop (mkF m 9 #[.val (.ref a1), .val (.ref a2), .val (.int (2 : Int32))] [])) _
        refine XS.iloadN X0.here hx rfl (hb hby own_d9_9) rfl ?_
        show Steps p.tables e below (s₁.setTop (mkF m 10 #[.val (.ref a1), .val (.ref a2), .val (.int (2 : Int32))] [(.int (2 : Int32))])) _
        refine XS.aloadN X0.here hx rfl (hb hby own_d9_10) rfl rfl ?_
        show Steps p.tables e below (s₁.setTop (mkF m 11 #[.val (.ref a1), .val (.ref a2), .val (.int (2 : Int32))] [(.ref a1), (.int (2 : Int32))])) _
        refine X0.arraylength hx (by rw [e0]; exact Ar212.1) (State.isArrayOf_alike hZ.alike Ar212.2.1) (g := (mkF m 11 #[.val (.ref a1), .val (.ref a2), .val (.int (2 : Int32))] [(.ref a1), (.int (2 : Int32))])) rfl rfl (hb hby own_d9_11) _ ?_
        rw [len_of S212 M212]
        show Steps p.tables e below (s₁.setTop (mkF m 12 #[.val (.ref a1), .val (.ref a2), .val (.int (2 : Int32))] [(.int (2 : Int32)), (.int (2 : Int32))])) _
        refine XS.icmpYes X0.here hx rfl (pc0 := 12) (pc' := 32) rfl (hb hby own_d9_12) rfl (flt (by decide : ¬ ((2 : Int32) < (2 : Int32)))).2.1 (by decide) (by decide) ?_
        show Steps p.tables e below (s₁.setTop (mkF m 32 #[.val (.ref a1), .val (.ref a2), .val (.int (2 : Int32))] [])) _
        refine XS.iconst X0.here hx rfl (hb hby own_d9_32) ?_
        show Steps p.tables e below (s₁.setTop (mkF m 33 #[.val (.ref a1), .val (.ref a2), .val (.int (2 : Int32))] [(.int (1 : Int32))])) _
        exact retN X0 hx (t := .boolean) Bd.returns (by simp) (hb hby own_d9_33) hr
      · show QLE_22 Z a1 a2 k1 k2 u0 u1 v0 v1 h0 n0 _ s₁.heap _
        rw [e0]
        exact ⟨(congrArg (fun z => some (Value.int z)) (by simp [own_eqL, hc21, hc21_211] : (1 : Int32) = (own_eqL [u0, u1] [v0, v1]))), N0, rfl⟩
    · obtain ⟨fs, hr, hrun, hended, hW, hsame⟩ := X0.leave (v := some (.int (0 : Int32))) (fun h => by rw [Bd.returns] at h; cases h)
      refine ⟨_, _, pre210 _ ?_, hrun, hended, _, _, rfl, ?_, ⟨_, rfl⟩, hW, hsame.mono (by decide) (by decide)⟩
      · show Steps p.tables e below (s₁.setTop (mkF m 21 #[.val (.ref a1), .val (.ref a2), .val (.int (1 : Int32))] [(.int v1), (.int u1)])) _
        refine XS.icmpNo X0.here hx rfl (hb hby own_d9_21) rfl (feq hc21_211).1 ?_
        show Steps p.tables e below (s₁.setTop (mkF m 24 #[.val (.ref a1), .val (.ref a2), .val (.int (1 : Int32))] [])) _
        refine XS.iconst X0.here hx rfl (hb hby own_d9_24) ?_
        show Steps p.tables e below (s₁.setTop (mkF m 25 #[.val (.ref a1), .val (.ref a2), .val (.int (1 : Int32))] [(.int (0 : Int32))])) _
        exact retN X0 hx (t := .boolean) Bd.returns (by simp) (hb hby own_d9_25) hr
      · show QLE_22 Z a1 a2 k1 k2 u0 u1 v0 v1 h0 n0 _ s₁.heap _
        rw [e0]
        exact ⟨(congrArg (fun z => some (Value.int z)) (by simp [own_eqL, hc21, hc21_211] : (0 : Int32) = (own_eqL [u0, u1] [v0, v1]))), N0, rfl⟩
  · obtain ⟨fs, hr, hrun, hended, hW, hsame⟩ := X0.leave (v := some (.int (0 : Int32))) (fun h => by rw [Bd.returns] at h; cases h)
    refine ⟨_, _, pre206 _ ?_, hrun, hended, _, _, rfl, ?_, ⟨_, rfl⟩, hW, hsame.mono (by decide) (by decide)⟩
    · show Steps p.tables e below (s₁.setTop (mkF m 21 #[.val (.ref a1), .val (.ref a2), .val (.int (0 : Int32))] [(.int v0), (.int u0)])) _
      refine XS.icmpNo X0.here hx rfl (hb hby own_d9_21) rfl (feq hc21).1 ?_
      show Steps p.tables e below (s₁.setTop (mkF m 24 #[.val (.ref a1), .val (.ref a2), .val (.int (0 : Int32))] [])) _
      refine XS.iconst X0.here hx rfl (hb hby own_d9_24) ?_
      show Steps p.tables e below (s₁.setTop (mkF m 25 #[.val (.ref a1), .val (.ref a2), .val (.int (0 : Int32))] [(.int (0 : Int32))])) _
      exact retN X0 hx (t := .boolean) Bd.returns (by simp) (hb hby own_d9_25) hr
    · show QLE_22 Z a1 a2 k1 k2 u0 u1 v0 v1 h0 n0 _ s₁.heap _
      rw [e0]
      exact ⟨(congrArg (fun z => some (Value.int z)) (by simp [own_eqL, hc21] : (0 : Int32) = (own_eqL [u0, u1] [v0, v1]))), N0, rfl⟩
theorem own_ef_rmSE_22 (m : MethodId) (a1 : Addr) (a2 : Addr) : entryFrame m #[(.ref a1), (.ref a2)] 3 = mkF m 0 #[.val (.ref a1), .val (.ref a2), .unset] [] := by first | (simp [entryFrame, mkF, argsToLocals, Value.category]; done) | rfl
def QSE_22 (Z : State) (a1 : Addr) (a2 : Addr) (cw : Int32) (b1 : Addr) (b2 : Addr) (k1 : ClassId) (k2 : ClassId) (u0 : Int32) (u1 : Int32) (v0 : Int32) (v1 : Int32) (h0 : Heap) (n0 : Nat) (v : Option Value) (h : Heap) (L : List Loc) : Prop := v = some (.int (own_eqL [u0, u1] [v0, v1])) ∧ Fr n0 L ∧ h = h0
set_option maxRecDepth 65536 in
set_option maxHeartbeats 40000000 in
theorem rmSE_22 (l : Launch) (Z : State) (a0 : Array Value) (hw : ∀ d ∈ tables_1, d.before a0 Z = true) (ws : List Jvm.Cond) (a1 : Addr) (a2 : Addr) (cw : Int32) (b1 : Addr) (b2 : Addr) (k1 : ClassId) (k2 : ClassId) (u0 : Int32) (u1 : Int32) (v0 : Int32) (v1 : Int32) (h0 : Heap) (n0 : Nat) (Z0 : n0 ≤ h0.size) (E_a2 : Exa Z h0 a2 "java/lang/String") (F_a1_coder : Fld Z h0 a1 "java/lang/String" "coder" "B" (.int (0 : Int32))) (F_a1_value : Fld Z h0 a1 "java/lang/String" "value" "[B" (.ref b1)) (F_a2_coder : Fld Z h0 a2 "java/lang/String" "coder" "B" (.int (0 : Int32))) (F_a2_value : Fld Z h0 a2 "java/lang/String" "value" "[B" (.ref b2)) (V_b1 : Arv Z h0 b1 k1 .byte (2 : Int32) [(.int u0), (.int u1)] (.int (0 : Int32))) (V_b2 : Arv Z h0 b2 k2 .byte (2 : Int32) [(.int v0), (.int v1)] (.int (0 : Int32))) (S_COMPACT_STRINGS : Sta Z h0 "java/lang/String" "COMPACT_STRINGS" "Z" (.int cw)) (hw0 : ¬ (cw = (0 : Int32))) (ne_a1_a2 : a1 ≠ a2) :
    MetFree l (⟨"java/lang/String", "equals", "(Ljava/lang/Object;)Z"⟩ : MethodName) (head1 (Jvm.Cond.code (⟨"java/lang/String", "equals", "(Ljava/lang/Object;)Z"⟩ : MethodName) jdk_42_method_66_code 3 (some .boolean) :: ws) ({ frames := 1, cells := 0, slots := 0, locals := 14 } : Room)) (fun a U => a = #[(.ref a1), (.ref a2)] ∧ Z.Warmed39 U.vm ∧ U.heap = h0) (fun _ _ _ _ _ => True) (fun _ U o U' => ∃ v L, o = .returned v ∧ QSE_22 Z a1 a2 cw b1 b2 k1 k2 u0 u1 v0 v1 h0 n0 v U'.heap L ∧ FrameEnd U o U' L ({ frames := 1, cells := 0, slots := 0, locals := 14 } : Room).cells ({ frames := 1, cells := 0, slots := 0, locals := 14 } : Room).slots) := by
  refine MetFree.of_bodySF (plainFor_of_name own_pn1) hisR ?_
  intro p e s m args below meth c s₁ Bd hml0 hP hK
  obtain ⟨rfl, hZ, hh⟩ := hP
  have hx := Bd.exec
  have hby := Bd.bytes
  have hml : c.maxLocals = 3 := hml0
  have hown : s.vm.findClass "java/lang/String" = some m.cls := findClass_of_methodNamed Bd.named
  have hnm := (name_of_methodNamed Bd.named Bd.method).1
  have X0 : Stand p l e ({ frames := 1, cells := 0, slots := 0, locals := 14 } : Room) s m #[(.ref a1), (.ref a2)] below meth c s₁ [] 0 0 := Stand.of_body Bd
  have e0 : s₁.heap = h0 := by rw [← hh, Bd.state]; rfl
  have N0 := Fr.nil n0
  have K0 : Keep h0 h0 [] := Keep.refl h0 _
  have pre0 : ∀ t, Steps p.tables e below (s₁.setTop (mkF m 0 #[.val (.ref a1), .val (.ref a2), .unset] [])) t → Steps p.tables e below (s₁.setTop (entryFrame m #[(.ref a1), (.ref a2)] 3)) t := fun t k => castTop (own_ef_rmSE_22 m a1 a2) k
  obtain ⟨T213, X213, e213, st213⟩ := instY X0 hx hZ hown (hw _ (List.mem_of_getElem? (i := 52) rfl)) e0 (Ins.self E_a2) (g := (mkF m 8 #[.val (.ref a1), .val (.ref a2), .unset] [(.ref a2)])) rfl rfl (hb hby own_d8_8)
  obtain ⟨T214, X214, e214, st214⟩ := castY X213 hx hZ hown (hw _ (List.mem_of_getElem? (i := 52) rfl)) e213 (Ins.self E_a2) (g := (mkF m 15 #[.val (.ref a1), .val (.ref a2), .unset] [(.ref a2)])) rfl rfl (hb hby own_d8_15)
  obtain ⟨T215, X215, e215, st215⟩ := getS2 X214 hx hZ hown (host := "") (Or.inl (hw _ (List.mem_of_getElem? (i := 53) rfl))) Via.refl e214 S_COMPACT_STRINGS (g := (mkF m 19 #[.val (.ref a1), .val (.ref a2), .val (.ref a2)] [])) rfl (hb hby own_d8_19)
  have hc22_216 : ¬ (cw = (0 : Int32)) := hw0
  obtain ⟨T217, X217, e217, st217⟩ := getF X215 hx hZ hown (host := "") (Or.inl (hw _ (List.mem_of_getElem? (i := 28) rfl))) Via.refl e215 F_a1_coder (g := (mkF m 26 #[.val (.ref a1), .val (.ref a2), .val (.ref a2)] [(.ref a1)])) rfl rfl (hb hby own_d8_26)
  obtain ⟨T218, X218, e218, st218⟩ := getF X217 hx hZ hown (host := "") (Or.inl (hw _ (List.mem_of_getElem? (i := 28) rfl))) Via.refl e217 F_a2_coder (g := (mkF m 30 #[.val (.ref a1), .val (.ref a2), .val (.ref a2)] [(.ref a2), (.int (0 : Int32))])) rfl rfl (hb hby own_d8_30)
  obtain ⟨T219, X219, e219, st219⟩ := getF X218 hx hZ hown (host := "") (Or.inl (hw _ (List.mem_of_getElem? (i := 27) rfl))) Via.refl e218 F_a1_value (g := (mkF m 37 #[.val (.ref a1), .val (.ref a2), .val (.ref a2)] [(.ref a1)])) rfl rfl (hb hby own_d8_37)
  obtain ⟨T220, X220, e220, st220⟩ := getF X219 hx hZ hown (host := "") (Or.inl (hw _ (List.mem_of_getElem? (i := 27) rfl))) Via.refl e219 F_a2_value (g := (mkF m 41 #[.val (.ref a1), .val (.ref a2), .val (.ref a2)] [(.ref a2), (.ref b1)])) rfl rfl (hb hby own_d8_41)
  obtain ⟨_, _, ⟨T221, L221, k221, n221⟩, -, X221, ⟨Lc221, hQ221, l221, y221, z221⟩, st221⟩ := Jvm.LawKit.callS X220 hx (y := (⟨"java/lang/StringLatin1", "equals", "([B[B)Z"⟩ : MethodName)) hown (mvT hZ (hw _ (List.mem_of_getElem? (i := 54) rfl))) (mvT hZ (hw _ (List.mem_of_getElem? (i := 55) rfl))) (mvT hZ (hw _ (List.mem_of_getElem? (i := 56) rfl))) (mvT hZ (hw _ (List.mem_of_getElem? (i := 57) rfl))) (by decide) (backOf (W := 0) (rmLE_22 l Z a0 hw [] b1 b2 k1 k2 u0 u1 v0 v1 h0 n0 (Nat.le_trans Z0 K0.1) V_b1 V_b2) hZ (hw _ (List.mem_of_getElem? (i := 57) rfl)) (hw _ (List.mem_of_getElem? (i := 56) rfl)) (by decide) (by decide)) (g := (mkF m 44 #[.val (.ref a1), .val (.ref a2), .val (.ref a2)] [(.ref b2), (.ref b1)])) rfl (by rw [hml]; rfl) (argsL := [(.ref b1), (.ref b2)]) (rest := []) (lenOf own_pd5 rfl) rfl (by show 2 * 0 + _ ≤ _; exact Nat.le_of_eq rfl) (hb hby own_d8_44) (fun _ _ => ⟨rfl, e220, (by decide : 0 + 0 ≤ _), (by decide : 0 + 0 ≤ _)⟩)
  dsimp only [Pt.U, Pt.locs, Pt.cells, Pt.slots] at X221 l221 y221 z221 st221 hQ221
  subst l221 y221 z221
  obtain ⟨rfl, N221q, e221⟩ := hQ221
  have N221 := Fr.app N0 N221q
  have pre222 : ∀ t, Steps p.tables e below (T221.setTop (mkF m 47 #[.val (.ref a1), .val (.ref a2), .val (.ref a2)] [(.int (own_eqL [u0, u1] [v0, v1]))])) t → Steps p.tables e below (s₁.setTop (entryFrame m #[(.ref a1), (.ref a2)] 3)) t := fun t k => by
    refine pre0 _ ?_
    show Steps p.tables e below (s₁.setTop (mkF m 0 #[.val (.ref a1), .val (.ref a2), .unset] [])) _
    refine XS.aloadN X0.here hx rfl (hb hby own_d8_0) rfl rfl ?_
    show Steps p.tables e below (s₁.setTop (mkF m 1 #[.val (.ref a1), .val (.ref a2), .unset] [(.ref a1)])) _
    refine XS.aloadN X0.here hx rfl (hb hby own_d8_1) rfl rfl ?_
    show Steps p.tables e below (s₁.setTop (mkF m 2 #[.val (.ref a1), .val (.ref a2), .unset] [(.ref a2), (.ref a1)])) _
    refine Jvm.RoadKit.acmp (g := (mkF m 2 #[.val (.ref a1), .val (.ref a2), .unset] [(.ref a2), (.ref a1)])) X0 hx rfl rfl rfl (pc0 := 2) (pc' := 7) (same := false) rfl (hb hby own_d8_2) rfl (decide_eq_false fun q => ne_a1_a2 (Value.ref.inj q)) (by decide) (by decide) ?_
    show Steps p.tables e below (s₁.setTop (mkF m 7 #[.val (.ref a1), .val (.ref a2), .unset] [])) _
    refine XS.aloadN X0.here hx rfl (hb hby own_d8_7) rfl rfl ?_
    show Steps p.tables e below (s₁.setTop (mkF m 8 #[.val (.ref a1), .val (.ref a2), .unset] [(.ref a2)])) _
    refine st213 _ ?_
    show Steps p.tables e below (T213.setTop (mkF m 11 #[.val (.ref a1), .val (.ref a2), .unset] [(.int (1 : Int32))])) _
    refine XS.ifNo X213.here hx rfl (hb hby own_d8_11) rfl ((if0 _ _).trans (feq (by decide : ¬ ((1 : Int32) = (0 : Int32)))).1) ?_
    show Steps p.tables e below (T213.setTop (mkF m 14 #[.val (.ref a1), .val (.ref a2), .unset] [])) _
    refine XS.aloadN X213.here hx rfl (hb hby own_d8_14) rfl rfl ?_
    show Steps p.tables e below (T213.setTop (mkF m 15 #[.val (.ref a1), .val (.ref a2), .unset] [(.ref a2)])) _
    refine st214 _ ?_
    show Steps p.tables e below (T214.setTop (mkF m 18 #[.val (.ref a1), .val (.ref a2), .unset] [(.ref a2)])) _
    refine XS.astoreN X214.here hx rfl (hb hby own_d8_18) rfl rfl (l' := #[.val (.ref a1), .val (.ref a2), .val (.ref a2)]) rfl ?_
    show Steps p.tables e below (T214.setTop (mkF m 19 #[.val (.ref a1), .val (.ref a2), .val (.ref a2)] [])) _
    refine st215 _ ?_
    show Steps p.tables e below (T215.setTop (mkF m 22 #[.val (.ref a1), .val (.ref a2), .val (.ref a2)] [(.int cw)])) _
    refine XS.ifNo X215.here hx rfl (hb hby own_d8_22) rfl ((if0 _ _).trans (feq hc22_216).1) ?_
    show Steps p.tables e below (T215.setTop (mkF m 25 #[.val (.ref a1), .val (.ref a2), .val (.ref a2)] [])) _
    refine XS.aloadN X215.here hx rfl (hb hby own_d8_25) rfl rfl ?_
    show Steps p.tables e below (T215.setTop (mkF m 26 #[.val (.ref a1), .val (.ref a2), .val (.ref a2)] [(.ref a1)])) _
    refine st217 _ ?_
    show Steps p.tables e below (T217.setTop (mkF m 29 #[.val (.ref a1), .val (.ref a2), .val (.ref a2)] [(.int (0 : Int32))])) _
    refine XS.aloadN X217.here hx rfl (hb hby own_d8_29) rfl rfl ?_
    show Steps p.tables e below (T217.setTop (mkF m 30 #[.val (.ref a1), .val (.ref a2), .val (.ref a2)] [(.ref a2), (.int (0 : Int32))])) _
    refine st218 _ ?_
    show Steps p.tables e below (T218.setTop (mkF m 33 #[.val (.ref a1), .val (.ref a2), .val (.ref a2)] [(.int (0 : Int32)), (.int (0 : Int32))])) _
    refine XS.icmpNo X218.here hx rfl (hb hby own_d8_33) rfl (teq (by decide : ((0 : Int32) = (0 : Int32)))).2 ?_
    show Steps p.tables e below (T218.setTop (mkF m 36 #[.val (.ref a1), .val (.ref a2), .val (.ref a2)] [])) _
    refine XS.aloadN X218.here hx rfl (hb hby own_d8_36) rfl rfl ?_
    show Steps p.tables e below (T218.setTop (mkF m 37 #[.val (.ref a1), .val (.ref a2), .val (.ref a2)] [(.ref a1)])) _
    refine st219 _ ?_
    show Steps p.tables e below (T219.setTop (mkF m 40 #[.val (.ref a1), .val (.ref a2), .val (.ref a2)] [(.ref b1)])) _
    refine XS.aloadN X219.here hx rfl (hb hby own_d8_40) rfl rfl ?_
    show Steps p.tables e below (T219.setTop (mkF m 41 #[.val (.ref a1), .val (.ref a2), .val (.ref a2)] [(.ref a2), (.ref b1)])) _
    refine st220 _ ?_
    show Steps p.tables e below (T220.setTop (mkF m 44 #[.val (.ref a1), .val (.ref a2), .val (.ref a2)] [(.ref b2), (.ref b1)])) _
    refine st221 _ ?_
    exact k
  by_cases hc47 : (own_eqL [u0, u1] [v0, v1]) = (0 : Int32)
  · obtain ⟨fs, hr, hrun, hended, hW, hsame⟩ := X221.leave (v := some (.int (0 : Int32))) (fun h => by rw [Bd.returns] at h; cases h)
    refine ⟨_, _, pre222 _ ?_, hrun, hended, _, _, rfl, ?_, ⟨_, rfl⟩, hW, hsame.mono (by decide) (by decide)⟩
    · show Steps p.tables e below (T221.setTop (mkF m 47 #[.val (.ref a1), .val (.ref a2), .val (.ref a2)] [(.int (own_eqL [u0, u1] [v0, v1]))])) _
      refine XS.ifYes X221.here hx rfl (pc0 := 47) (pc' := 54) rfl (hb hby own_d8_47) rfl ((if0 _ _).trans (teq hc47).1) (by decide) (by decide) ?_
      show Steps p.tables e below (T221.setTop (mkF m 54 #[.val (.ref a1), .val (.ref a2), .val (.ref a2)] [])) _
      refine XS.iconst X221.here hx rfl (hb hby own_d8_54) ?_
      show Steps p.tables e below (T221.setTop (mkF m 55 #[.val (.ref a1), .val (.ref a2), .val (.ref a2)] [(.int (0 : Int32))])) _
      exact retN X221 hx (t := .boolean) Bd.returns (by simp) (hb hby own_d8_55) hr
    · show QSE_22 Z a1 a2 cw b1 b2 k1 k2 u0 u1 v0 v1 h0 n0 _ T221.heap _
      rw [e221]
      exact ⟨(congrArg (fun z => some (Value.int z)) (hc47.symm : (0 : Int32) = (own_eqL [u0, u1] [v0, v1]))), N221, rfl⟩
  · obtain ⟨fs, hr, hrun, hended, hW, hsame⟩ := X221.leave (v := some (.int (1 : Int32))) (fun h => by rw [Bd.returns] at h; cases h)
    refine ⟨_, _, pre222 _ ?_, hrun, hended, _, _, rfl, ?_, ⟨_, rfl⟩, hW, hsame.mono (by decide) (by decide)⟩
    · show Steps p.tables e below (T221.setTop (mkF m 47 #[.val (.ref a1), .val (.ref a2), .val (.ref a2)] [(.int (own_eqL [u0, u1] [v0, v1]))])) _
      refine XS.ifNo X221.here hx rfl (hb hby own_d8_47) rfl ((if0 _ _).trans (feq hc47).1) ?_
      show Steps p.tables e below (T221.setTop (mkF m 50 #[.val (.ref a1), .val (.ref a2), .val (.ref a2)] [])) _
      refine XS.iconst X221.here hx rfl (hb hby own_d8_50) ?_
      show Steps p.tables e below (T221.setTop (mkF m 51 #[.val (.ref a1), .val (.ref a2), .val (.ref a2)] [(.int (1 : Int32))])) _
      refine XS.goto X221.here hx rfl (pc0 := 51) (pc' := 55) rfl (hb hby own_d8_51) (by decide) (by decide) ?_
      show Steps p.tables e below (T221.setTop (mkF m 55 #[.val (.ref a1), .val (.ref a2), .val (.ref a2)] [(.int (1 : Int32))])) _
      exact retN X221 hx (t := .boolean) Bd.returns (by simp) (hb hby own_d8_55) hr
    · show QSE_22 Z a1 a2 cw b1 b2 k1 k2 u0 u1 v0 v1 h0 n0 _ T221.heap _
      rw [e221]
      exact ⟨(congrArg (fun z => some (Value.int z)) ((own_eqL1 hc47).symm : (1 : Int32) = (own_eqL [u0, u1] [v0, v1]))), N221, rfl⟩
theorem own_d8_5 : decode jdk_42_method_66_code 5 = .ok (.iconst 1, 1) := by decide +kernel
theorem own_d8_6 : decode jdk_42_method_66_code 6 = .ok (.ireturn, 1) := by decide +kernel
theorem own_ef_rmSE_s (m : MethodId) (a1 : Addr) : entryFrame m #[(.ref a1), (.ref a1)] 3 = mkF m 0 #[.val (.ref a1), .val (.ref a1), .unset] [] := by first | (simp [entryFrame, mkF, argsToLocals, Value.category]; done) | rfl
def QSE_s (Z : State) (a1 : Addr) (h0 : Heap) (n0 : Nat) (v : Option Value) (h : Heap) (L : List Loc) : Prop := v = some (.int (1 : Int32)) ∧ Fr n0 L ∧ h = h0
set_option maxRecDepth 65536 in
set_option maxHeartbeats 40000000 in
theorem rmSE_s (l : Launch) (Z : State) (a0 : Array Value) (hw : ∀ d ∈ tables_1, d.before a0 Z = true) (ws : List Jvm.Cond) (a1 : Addr) (h0 : Heap) (n0 : Nat) (Z0 : n0 ≤ h0.size) :
    MetFree l (⟨"java/lang/String", "equals", "(Ljava/lang/Object;)Z"⟩ : MethodName) (head1 (Jvm.Cond.code (⟨"java/lang/String", "equals", "(Ljava/lang/Object;)Z"⟩ : MethodName) jdk_42_method_66_code 3 (some .boolean) :: ws) ({ frames := 0, cells := 0, slots := 0, locals := 0 } : Room)) (fun a U => a = #[(.ref a1), (.ref a1)] ∧ Z.Warmed39 U.vm ∧ U.heap = h0) (fun _ _ _ _ _ => True) (fun _ U o U' => ∃ v L, o = .returned v ∧ QSE_s Z a1 h0 n0 v U'.heap L ∧ FrameEnd U o U' L ({ frames := 0, cells := 0, slots := 0, locals := 0 } : Room).cells ({ frames := 0, cells := 0, slots := 0, locals := 0 } : Room).slots) := by
  refine MetFree.of_bodySF (plainFor_of_name own_pn1) hisR ?_
  intro p e s m args below meth c s₁ Bd hml0 hP hK
  obtain ⟨rfl, hZ, hh⟩ := hP
  have hx := Bd.exec
  have hby := Bd.bytes
  have hml : c.maxLocals = 3 := hml0
  have hown : s.vm.findClass "java/lang/String" = some m.cls := findClass_of_methodNamed Bd.named
  have hnm := (name_of_methodNamed Bd.named Bd.method).1
  have X0 : Stand p l e ({ frames := 0, cells := 0, slots := 0, locals := 0 } : Room) s m #[(.ref a1), (.ref a1)] below meth c s₁ [] 0 0 := Stand.of_body Bd
  have e0 : s₁.heap = h0 := by rw [← hh, Bd.state]; rfl
  have N0 := Fr.nil n0
  have K0 : Keep h0 h0 [] := Keep.refl h0 _
  have pre0 : ∀ t, Steps p.tables e below (s₁.setTop (mkF m 0 #[.val (.ref a1), .val (.ref a1), .unset] [])) t → Steps p.tables e below (s₁.setTop (entryFrame m #[(.ref a1), (.ref a1)] 3)) t := fun t k => castTop (own_ef_rmSE_s m a1) k
  obtain ⟨fs, hr, hrun, hended, hW, hsame⟩ := X0.leave (v := some (.int (1 : Int32))) (fun h => by rw [Bd.returns] at h; cases h)
  refine ⟨_, _, pre0 _ ?_, hrun, hended, _, _, rfl, ?_, ⟨_, rfl⟩, hW, hsame.mono (by decide) (by decide)⟩
  · show Steps p.tables e below (s₁.setTop (mkF m 0 #[.val (.ref a1), .val (.ref a1), .unset] [])) _
    refine XS.aloadN X0.here hx rfl (hb hby own_d8_0) rfl rfl ?_
    show Steps p.tables e below (s₁.setTop (mkF m 1 #[.val (.ref a1), .val (.ref a1), .unset] [(.ref a1)])) _
    refine XS.aloadN X0.here hx rfl (hb hby own_d8_1) rfl rfl ?_
    show Steps p.tables e below (s₁.setTop (mkF m 2 #[.val (.ref a1), .val (.ref a1), .unset] [(.ref a1), (.ref a1)])) _
    refine Jvm.RoadKit.acmp (g := (mkF m 2 #[.val (.ref a1), .val (.ref a1), .unset] [(.ref a1), (.ref a1)])) X0 hx rfl rfl rfl (pc0 := 2) (pc' := 5) (same := true) rfl (hb hby own_d8_2) rfl (decide_eq_true rfl) (by decide) (by decide) ?_
    show Steps p.tables e below (s₁.setTop (mkF m 5 #[.val (.ref a1), .val (.ref a1), .unset] [])) _
    refine XS.iconst X0.here hx rfl (hb hby own_d8_5) ?_
    show Steps p.tables e below (s₁.setTop (mkF m 6 #[.val (.ref a1), .val (.ref a1), .unset] [(.int (1 : Int32))])) _
    exact retN X0 hx (t := .boolean) Bd.returns (by simp) (hb hby own_d8_6) hr
  · show QSE_s Z a1 h0 n0 _ s₁.heap _
    rw [e0]
    exact ⟨rfl, N0, rfl⟩
def QSE (Z : State) (a1 : Addr) (a2 : Addr) (cw : Int32) (L1 : List Int32) (L2 : List Int32) (h0 : Heap) (n0 : Nat) (v : Option Value) (h : Heap) (L : List Loc) : Prop := v = some (.int (own_eqL L1 L2)) ∧ Fr n0 L ∧ h = h0
set_option maxRecDepth 65536 in
theorem rmSE (l : Launch) (Z : State) (a0 : Array Value) (hw : ∀ d ∈ tables_1, d.before a0 Z = true) (ws : List Jvm.Cond) (a1 : Addr) (a2 : Addr) (cw : Int32) (L1 : List Int32) (L2 : List Int32) (h0 : Heap) (n0 : Nat) (Z0 : n0 ≤ h0.size) (T_a1 : own_Str Z h0 a1 L1) (T_a2 : own_Str Z h0 a2 L2) (S_COMPACT_STRINGS : Sta Z h0 "java/lang/String" "COMPACT_STRINGS" "Z" (.int cw)) (hw0 : ¬ (cw = (0 : Int32))) (ne_a1_a2 : a1 ≠ a2) (hl1 : L1.length ≤ 2) (hl2 : L2.length ≤ 2) :
    MetFree l (⟨"java/lang/String", "equals", "(Ljava/lang/Object;)Z"⟩ : MethodName) (head1 (Jvm.Cond.code (⟨"java/lang/String", "equals", "(Ljava/lang/Object;)Z"⟩ : MethodName) jdk_42_method_66_code 3 (some .boolean) :: ws) ({ frames := 1, cells := 0, slots := 0, locals := 14 } : Room)) (fun a U => a = #[(.ref a1), (.ref a2)] ∧ Z.Warmed39 U.vm ∧ U.heap = h0) (fun _ _ _ _ _ => True) (fun _ U o U' => ∃ v L, o = .returned v ∧ QSE Z a1 a2 cw L1 L2 h0 n0 v U'.heap L ∧ FrameEnd U o U' L ({ frames := 1, cells := 0, slots := 0, locals := 14 } : Room).cells ({ frames := 1, cells := 0, slots := 0, locals := 14 } : Room).slots) := by
  obtain ⟨-, C1, b1, k1, F1, V1⟩ := T_a1
  obtain ⟨-, C2, b2, k2, F2, V2⟩ := id T_a2
  match L1, L2, V1, V2, hl1, hl2 with
  | [], [], V1, V2, _, _ => exact rmSE_00 l Z a0 hw ws a1 a2 cw b1 b2 k1 k2   h0 n0 Z0 T_a2.1 C1 F1 C2 F2 V1 V2 S_COMPACT_STRINGS hw0 ne_a1_a2
  | [], [v0], V1, V2, _, _ => exact rmSE_01 l Z a0 hw ws a1 a2 cw b1 b2 k1 k2  v0 h0 n0 Z0 T_a2.1 C1 F1 C2 F2 V1 V2 S_COMPACT_STRINGS hw0 ne_a1_a2
  | [], [v0, v1], V1, V2, _, _ => exact rmSE_02 l Z a0 hw ws a1 a2 cw b1 b2 k1 k2  v0 v1 h0 n0 Z0 T_a2.1 C1 F1 C2 F2 V1 V2 S_COMPACT_STRINGS hw0 ne_a1_a2
  | [u0], [], V1, V2, _, _ => exact rmSE_10 l Z a0 hw ws a1 a2 cw b1 b2 k1 k2 u0  h0 n0 Z0 T_a2.1 C1 F1 C2 F2 V1 V2 S_COMPACT_STRINGS hw0 ne_a1_a2
  | [u0], [v0], V1, V2, _, _ => exact rmSE_11 l Z a0 hw ws a1 a2 cw b1 b2 k1 k2 u0 v0 h0 n0 Z0 T_a2.1 C1 F1 C2 F2 V1 V2 S_COMPACT_STRINGS hw0 ne_a1_a2
  | [u0], [v0, v1], V1, V2, _, _ => exact rmSE_12 l Z a0 hw ws a1 a2 cw b1 b2 k1 k2 u0 v0 v1 h0 n0 Z0 T_a2.1 C1 F1 C2 F2 V1 V2 S_COMPACT_STRINGS hw0 ne_a1_a2
  | [u0, u1], [], V1, V2, _, _ => exact rmSE_20 l Z a0 hw ws a1 a2 cw b1 b2 k1 k2 u0 u1  h0 n0 Z0 T_a2.1 C1 F1 C2 F2 V1 V2 S_COMPACT_STRINGS hw0 ne_a1_a2
  | [u0, u1], [v0], V1, V2, _, _ => exact rmSE_21 l Z a0 hw ws a1 a2 cw b1 b2 k1 k2 u0 u1 v0 h0 n0 Z0 T_a2.1 C1 F1 C2 F2 V1 V2 S_COMPACT_STRINGS hw0 ne_a1_a2
  | [u0, u1], [v0, v1], V1, V2, _, _ => exact rmSE_22 l Z a0 hw ws a1 a2 cw b1 b2 k1 k2 u0 u1 v0 v1 h0 n0 Z0 T_a2.1 C1 F1 C2 F2 V1 V2 S_COMPACT_STRINGS hw0 ne_a1_a2
  | _ :: _ :: _ :: _, _, _, _, h, _ => exact absurd h (by simp)
  | _, _ :: _ :: _ :: _, _, _, _, h => exact absurd h (by simp)
theorem own_d5_0 : decode prog_9_method_1_code 0 = .ok (.aload_n 0, 1) := by decide +kernel
theorem own_d5_1 : decode prog_9_method_1_code 1 = .ok (.invokespecial 1, 3) := by decide +kernel
theorem own_d5_4 : decode prog_9_method_1_code 4 = .ok (.aload_n 0, 1) := by decide +kernel
theorem own_d5_5 : decode prog_9_method_1_code 5 = .ok (.aload_n 1, 1) := by decide +kernel
theorem own_d5_6 : decode prog_9_method_1_code 6 = .ok (.putfield 7, 3) := by decide +kernel
theorem own_d5_9 : decode prog_9_method_1_code 9 = .ok (.aload_n 0, 1) := by decide +kernel
theorem own_d5_10 : decode prog_9_method_1_code 10 = .ok (.aload_n 2, 1) := by decide +kernel
theorem own_d5_11 : decode prog_9_method_1_code 11 = .ok (.putfield 13, 3) := by decide +kernel
theorem own_d5_14 : decode prog_9_method_1_code 14 = .ok (.return_, 1) := by decide +kernel
theorem own_pn4 : plainName "com/example/postbag/postbag/broker/StoredBinding" = true := by first | (simp [plainName, overriddenIn]; done) | decide +kernel
theorem own_ef_rmB (m : MethodId) (a1 : Addr) (a2 : Addr) (a3 : Addr) : entryFrame m #[(.ref a1), (.ref a2), (.ref a3)] 3 = mkF m 0 #[.val (.ref a1), .val (.ref a2), .val (.ref a3)] [] := by first | (simp [entryFrame, mkF, argsToLocals, Value.category]; done) | rfl
def QB (Z : State) (a1 : Addr) (a2 : Addr) (a3 : Addr) (h0 : Heap) (n0 : Nat) (v : Option Value) (h : Heap) (L : List Loc) : Prop := v = none ∧ Fr n0 L ∧ Keep h0 h [a1] ∧ Exa Z h a1 "com/example/postbag/postbag/broker/StoredBinding" ∧ Fld Z h a1 "com/example/postbag/postbag/broker/StoredBinding" "exchange" "Ljava/lang/String;" (.ref a2) ∧ Fld Z h a1 "com/example/postbag/postbag/broker/StoredBinding" "bindingKey" "Ljava/lang/String;" (.ref a3)
set_option maxRecDepth 65536 in
set_option maxHeartbeats 40000000 in
theorem rmB (l : Launch) (Z : State) (a0 : Array Value) (hw : ∀ d ∈ tables_1, d.before a0 Z = true) (ws : List Jvm.Cond) (a1 : Addr) (a2 : Addr) (a3 : Addr) (h0 : Heap) (n0 : Nat) (Z0 : n0 ≤ h0.size) (E_a1 : Exa Z h0 a1 "com/example/postbag/postbag/broker/StoredBinding") (F_a1_exchange : Fld Z h0 a1 "com/example/postbag/postbag/broker/StoredBinding" "exchange" "Ljava/lang/String;" .null) (F_a1_bindingKey : Fld Z h0 a1 "com/example/postbag/postbag/broker/StoredBinding" "bindingKey" "Ljava/lang/String;" .null) (gg_a1 : n0 ≤ a1) :
    MetFree l (⟨"com/example/postbag/postbag/broker/StoredBinding", "<init>", "(Ljava/lang/String;Ljava/lang/String;)V"⟩ : MethodName) (head1 (Jvm.Cond.code (⟨"com/example/postbag/postbag/broker/StoredBinding", "<init>", "(Ljava/lang/String;Ljava/lang/String;)V"⟩ : MethodName) prog_9_method_1_code 3 none :: ws) ({ frames := 1, cells := 0, slots := 0, locals := 12 } : Room)) (fun a U => a = #[(.ref a1), (.ref a2), (.ref a3)] ∧ Z.Warmed39 U.vm ∧ U.heap = h0) (fun _ _ _ _ _ => True) (fun _ U o U' => ∃ v L, o = .returned v ∧ QB Z a1 a2 a3 h0 n0 v U'.heap L ∧ FrameEnd U o U' L ({ frames := 1, cells := 0, slots := 0, locals := 12 } : Room).cells ({ frames := 1, cells := 0, slots := 0, locals := 12 } : Room).slots) := by
  refine MetFree.of_bodySF (plainFor_of_name own_pn4) hisR ?_
  intro p e s m args below meth c s₁ Bd hml0 hP hK
  obtain ⟨rfl, hZ, hh⟩ := hP
  have hx := Bd.exec
  have hby := Bd.bytes
  have hml : c.maxLocals = 3 := hml0
  have hown : s.vm.findClass "com/example/postbag/postbag/broker/StoredBinding" = some m.cls := findClass_of_methodNamed Bd.named
  have hnm := (name_of_methodNamed Bd.named Bd.method).1
  have X0 : Stand p l e ({ frames := 1, cells := 0, slots := 0, locals := 12 } : Room) s m #[(.ref a1), (.ref a2), (.ref a3)] below meth c s₁ [] 0 0 := Stand.of_body Bd
  have e0 : s₁.heap = h0 := by rw [← hh, Bd.state]; rfl
  have N0 := Fr.nil n0
  have K0 : Keep h0 h0 [a1] := Keep.refl h0 _
  have pre0 : ∀ t, Steps p.tables e below (s₁.setTop (mkF m 0 #[.val (.ref a1), .val (.ref a2), .val (.ref a3)] [])) t → Steps p.tables e below (s₁.setTop (entryFrame m #[(.ref a1), (.ref a2), (.ref a3)] 3)) t := fun t k => castTop (own_ef_rmB m a1 a2 a3) k
  obtain ⟨T223, X223, e223, st223⟩ := initO X0 hx hZ hown (hw _ (List.mem_of_getElem? (i := 32) rfl)) (hw _ (List.mem_of_getElem? (i := 19) rfl)) (hw _ (List.mem_of_getElem? (i := 20) rfl)) e0 (g := (mkF m 1 #[.val (.ref a1), .val (.ref a2), .val (.ref a3)] [(.ref a1)])) rfl (by rw [hml]; rfl) rfl (hb hby own_d5_1) (by decide) (W := 0) (by show 2 * 0 + _ ≤ _; exact Nat.le_of_eq rfl) (by decide)
  obtain ⟨T224, h224, X224, e224, W224, st224⟩ := putF X223 hx hZ hown (host := "") (Or.inl (hw _ (List.mem_of_getElem? (i := 33) rfl))) Via.refl e223 F_a1_exchange E_a1 (Or.inr ⟨(hw _ (List.mem_of_getElem? (i := 34) rfl)), rfl, hnm⟩) (hw _ (List.mem_of_getElem? (i := 1) rfl)) (ty := (.object "java/lang/String")) (by decide) rfl rfl (g := (mkF m 6 #[.val (.ref a1), .val (.ref a2), .val (.ref a3)] [(.ref a2), (.ref a1)])) rfl rfl (hb hby own_d5_6)
  have Fw224 := F_a1_exchange.same W224
  have K224 := K0.wr W224 (Or.inl (List.mem_of_getElem? (i := 0) rfl))
  have N224 := Fr.snoc X224 N0 gg_a1
  have Q225 := (E_a1.wr W224)
  have Q226 := (F_a1_bindingKey.other W224 (Or.inr (slot_ne (Or.inr (hw _ (List.mem_of_getElem? (i := 36) rfl))) (Or.inr (hw _ (List.mem_of_getElem? (i := 34) rfl))) (by decide) (t := (.object "java/lang/String")) (t' := (.object "java/lang/String")) (by decide) (by decide))))
  obtain ⟨T227, h227, X227, e227, W227, st227⟩ := putF X224 hx hZ hown (host := "") (Or.inl (hw _ (List.mem_of_getElem? (i := 35) rfl))) Via.refl e224 Q226 Q225 (Or.inr ⟨(hw _ (List.mem_of_getElem? (i := 36) rfl)), rfl, hnm⟩) (hw _ (List.mem_of_getElem? (i := 1) rfl)) (ty := (.object "java/lang/String")) (by decide) rfl rfl (g := (mkF m 11 #[.val (.ref a1), .val (.ref a2), .val (.ref a3)] [(.ref a3), (.ref a1)])) rfl rfl (hb hby own_d5_11)
  have Fw227 := Q226.same W227
  have K227 := K224.wr W227 (Or.inl (List.mem_of_getElem? (i := 0) rfl))
  have N227 := Fr.snoc X227 N224 gg_a1
  have Q228 := (Q225.wr W227)
  have Q229 := (Fw224.other W227 (Or.inr (slot_ne (Or.inr (hw _ (List.mem_of_getElem? (i := 34) rfl))) (Or.inr (hw _ (List.mem_of_getElem? (i := 36) rfl))) (by decide) (t := (.object "java/lang/String")) (t' := (.object "java/lang/String")) (by decide) (by decide))))
  obtain ⟨fs, hr, hrun, hended, hW, hsame⟩ := X227.leave (v := none) (fun _ => rfl)
  refine ⟨_, _, pre0 _ ?_, hrun, hended, _, _, rfl, ?_, ⟨_, rfl⟩, hW, hsame.mono (by decide) (by decide)⟩
  · show Steps p.tables e below (s₁.setTop (mkF m 0 #[.val (.ref a1), .val (.ref a2), .val (.ref a3)] [])) _
    refine XS.aloadN X0.here hx rfl (hb hby own_d5_0) rfl rfl ?_
    show Steps p.tables e below (s₁.setTop (mkF m 1 #[.val (.ref a1), .val (.ref a2), .val (.ref a3)] [(.ref a1)])) _
    refine st223 _ ?_
    show Steps p.tables e below (T223.setTop (mkF m 4 #[.val (.ref a1), .val (.ref a2), .val (.ref a3)] [])) _
    refine XS.aloadN X223.here hx rfl (hb hby own_d5_4) rfl rfl ?_
    show Steps p.tables e below (T223.setTop (mkF m 5 #[.val (.ref a1), .val (.ref a2), .val (.ref a3)] [(.ref a1)])) _
    refine XS.aloadN X223.here hx rfl (hb hby own_d5_5) rfl rfl ?_
    show Steps p.tables e below (T223.setTop (mkF m 6 #[.val (.ref a1), .val (.ref a2), .val (.ref a3)] [(.ref a2), (.ref a1)])) _
    refine st224 _ ?_
    show Steps p.tables e below (T224.setTop (mkF m 9 #[.val (.ref a1), .val (.ref a2), .val (.ref a3)] [])) _
    refine XS.aloadN X224.here hx rfl (hb hby own_d5_9) rfl rfl ?_
    show Steps p.tables e below (T224.setTop (mkF m 10 #[.val (.ref a1), .val (.ref a2), .val (.ref a3)] [(.ref a1)])) _
    refine XS.aloadN X224.here hx rfl (hb hby own_d5_10) rfl rfl ?_
    show Steps p.tables e below (T224.setTop (mkF m 11 #[.val (.ref a1), .val (.ref a2), .val (.ref a3)] [(.ref a3), (.ref a1)])) _
    refine st227 _ ?_
    show Steps p.tables e below (T227.setTop (mkF m 14 #[.val (.ref a1), .val (.ref a2), .val (.ref a3)] [])) _
    exact X227.returnOut hx Bd.returns (hb hby own_d5_14) hr
  · show QB Z a1 a2 a3 h0 n0 _ T227.heap _
    rw [e227]
    exact ⟨rfl, N227, K227, Q228, Q229, Fw227⟩
theorem own_d6_0 : decode method_3_code 0 = .ok (.iload_n 1, 1) := by decide +kernel
theorem own_d6_1 : decode method_3_code 1 = .ok (.iload_n 3, 1) := by decide +kernel
theorem own_d6_2 : decode method_3_code 2 = .ok (.if_icmp .eq 5, 3) := by decide +kernel
theorem own_d6_7 : decode method_3_code 7 = .ok (.iload_n 1, 1) := by decide +kernel
theorem own_d6_8 : decode method_3_code 8 = .ok (.iconst 1, 1) := by decide +kernel
theorem own_d6_9 : decode method_3_code 9 = .ok (.if_icmp .lt 18, 3) := by decide +kernel
theorem own_d6_27 : decode method_3_code 27 = .ok (.iload_n 1, 1) := by decide +kernel
theorem own_d6_28 : decode method_3_code 28 = .ok (.iconst 2, 1) := by decide +kernel
theorem own_d6_29 : decode method_3_code 29 = .ok (.if_icmp .lt 24, 3) := by decide +kernel
theorem own_d6_53 : decode method_3_code 53 = .ok (.iconst 1, 1) := by decide +kernel
theorem own_d6_54 : decode method_3_code 54 = .ok (.ireturn, 1) := by decide +kernel
theorem own_d6_32 : decode method_3_code 32 = .ok (.iload_n 0, 1) := by decide +kernel
theorem own_d6_33 : decode method_3_code 33 = .ok (.bipush 8, 2) := by decide +kernel
theorem own_d6_35 : decode method_3_code 35 = .ok (.iushr, 1) := by decide +kernel
theorem own_d6_36 : decode method_3_code 36 = .ok (.sipush 255, 3) := by decide +kernel
theorem own_d6_39 : decode method_3_code 39 = .ok (.iand, 1) := by decide +kernel
theorem own_d6_40 : decode method_3_code 40 = .ok (.iload_n 2, 1) := by decide +kernel
theorem own_d6_41 : decode method_3_code 41 = .ok (.bipush 8, 2) := by decide +kernel
theorem own_d6_43 : decode method_3_code 43 = .ok (.iushr, 1) := by decide +kernel
theorem own_d6_44 : decode method_3_code 44 = .ok (.sipush 255, 3) := by decide +kernel
theorem own_d6_47 : decode method_3_code 47 = .ok (.iand, 1) := by decide +kernel
theorem own_d6_48 : decode method_3_code 48 = .ok (.if_icmp .eq 5, 3) := by decide +kernel
theorem own_d6_51 : decode method_3_code 51 = .ok (.iconst 0, 1) := by decide +kernel
theorem own_d6_52 : decode method_3_code 52 = .ok (.ireturn, 1) := by decide +kernel
theorem own_d6_12 : decode method_3_code 12 = .ok (.iload_n 0, 1) := by decide +kernel
theorem own_d6_13 : decode method_3_code 13 = .ok (.sipush 255, 3) := by decide +kernel
theorem own_d6_16 : decode method_3_code 16 = .ok (.iand, 1) := by decide +kernel
theorem own_d6_17 : decode method_3_code 17 = .ok (.iload_n 2, 1) := by decide +kernel
theorem own_d6_18 : decode method_3_code 18 = .ok (.sipush 255, 3) := by decide +kernel
theorem own_d6_21 : decode method_3_code 21 = .ok (.iand, 1) := by decide +kernel
theorem own_d6_22 : decode method_3_code 22 = .ok (.if_icmp .eq 5, 3) := by decide +kernel
theorem own_d6_25 : decode method_3_code 25 = .ok (.iconst 0, 1) := by decide +kernel
theorem own_d6_26 : decode method_3_code 26 = .ok (.ireturn, 1) := by decide +kernel
theorem own_d6_5 : decode method_3_code 5 = .ok (.iconst 0, 1) := by decide +kernel
theorem own_d6_6 : decode method_3_code 6 = .ok (.ireturn, 1) := by decide +kernel
def own_f_rmS (p1 : Int32) (p2 : Int32) (p3 : Int32) (p4 : Int32) : Int32 := if p2 = p4 then if p2 < (1 : Int32) then if p2 < (2 : Int32) then (1 : Int32) else if (((p1.toUInt32 >>> ((8 : Int32) &&& 31).toUInt32).toInt32) &&& (255 : Int32)) = (((p3.toUInt32 >>> ((8 : Int32) &&& 31).toUInt32).toInt32) &&& (255 : Int32)) then (1 : Int32) else (0 : Int32) else if (p1 &&& (255 : Int32)) = (p3 &&& (255 : Int32)) then if p2 < (2 : Int32) then (1 : Int32) else if (((p1.toUInt32 >>> ((8 : Int32) &&& 31).toUInt32).toInt32) &&& (255 : Int32)) = (((p3.toUInt32 >>> ((8 : Int32) &&& 31).toUInt32).toInt32) &&& (255 : Int32)) then (1 : Int32) else (0 : Int32) else (0 : Int32) else (0 : Int32)
theorem own_ef_rmS (m : MethodId) (p1 : Int32) (p2 : Int32) (p3 : Int32) (p4 : Int32) : entryFrame m #[(.int p1), (.int p2), (.int p3), (.int p4)] 4 = mkF m 0 #[.val (.int p1), .val (.int p2), .val (.int p3), .val (.int p4)] [] := by first | (simp [entryFrame, mkF, argsToLocals, Value.category]; done) | rfl
def QS (Z : State) (p1 : Int32) (p2 : Int32) (p3 : Int32) (p4 : Int32) (h0 : Heap) (n0 : Nat) (v : Option Value) (h : Heap) (L : List Loc) : Prop := v = some (.int (own_f_rmS p1 p2 p3 p4)) ∧ Fr n0 L ∧ h = h0
set_option maxRecDepth 65536 in
set_option maxHeartbeats 40000000 in
theorem rmS (l : Launch) (Z : State) (a0 : Array Value) (hw : ∀ d ∈ tables_1, d.before a0 Z = true) (ws : List Jvm.Cond) (p1 : Int32) (p2 : Int32) (p3 : Int32) (p4 : Int32) (h0 : Heap) (n0 : Nat) (Z0 : n0 ≤ h0.size) :
    MetFree l (⟨"com/example/postbag/postbag/broker/StoredBindingEqualsPinLaw", "same", "(IIII)Z"⟩ : MethodName) (head1 (Jvm.Cond.code (⟨"com/example/postbag/postbag/broker/StoredBindingEqualsPinLaw", "same", "(IIII)Z"⟩ : MethodName) method_3_code 4 (some .boolean) :: ws) ({ frames := 0, cells := 0, slots := 0, locals := 0 } : Room)) (fun a U => a = #[(.int p1), (.int p2), (.int p3), (.int p4)] ∧ Z.Warmed39 U.vm ∧ U.heap = h0) (fun _ _ _ _ _ => True) (fun _ U o U' => ∃ v L, o = .returned v ∧ QS Z p1 p2 p3 p4 h0 n0 v U'.heap L ∧ FrameEnd U o U' L ({ frames := 0, cells := 0, slots := 0, locals := 0 } : Room).cells ({ frames := 0, cells := 0, slots := 0, locals := 0 } : Room).slots) := by
  refine MetFree.of_bodySF (plainFor_of_name own_pn2) hisR ?_
  intro p e s m args below meth c s₁ Bd hml0 hP hK
  obtain ⟨rfl, hZ, hh⟩ := hP
  have hx := Bd.exec
  have hby := Bd.bytes
  have hml : c.maxLocals = 4 := hml0
  have hown : s.vm.findClass "com/example/postbag/postbag/broker/StoredBindingEqualsPinLaw" = some m.cls := findClass_of_methodNamed Bd.named
  have hnm := (name_of_methodNamed Bd.named Bd.method).1
  have X0 : Stand p l e ({ frames := 0, cells := 0, slots := 0, locals := 0 } : Room) s m #[(.int p1), (.int p2), (.int p3), (.int p4)] below meth c s₁ [] 0 0 := Stand.of_body Bd
  have e0 : s₁.heap = h0 := by rw [← hh, Bd.state]; rfl
  have N0 := Fr.nil n0
  have K0 : Keep h0 h0 [] := Keep.refl h0 _
  have pre0 : ∀ t, Steps p.tables e below (s₁.setTop (mkF m 0 #[.val (.int p1), .val (.int p2), .val (.int p3), .val (.int p4)] [])) t → Steps p.tables e below (s₁.setTop (entryFrame m #[(.int p1), (.int p2), (.int p3), (.int p4)] 4)) t := fun t k => castTop (own_ef_rmS m p1 p2 p3 p4) k
  have pre237 : ∀ t, Steps p.tables e below (s₁.setTop (mkF m 2 #[.val (.int p1), .val (.int p2), .val (.int p3), .val (.int p4)] [(.int p4), (.int p2)])) t → Steps p.tables e below (s₁.setTop (entryFrame m #[(.int p1), (.int p2), (.int p3), (.int p4)] 4)) t := fun t k => by
    refine pre0 _ ?_
    show Steps p.tables e below (s₁.setTop (mkF m 0 #[.val (.int p1), .val (.int p2), .val (.int p3), .val (.int p4)] [])) _
    refine XS.iloadN X0.here hx rfl (hb hby own_d6_0) rfl ?_
    show Steps p.tables e below (s₁.setTop (mkF m 1 #[.val (.int p1), .val (.int p2), .val (.int p3), .val (.int p4)] [(.int p2)])) _
    refine XS.iloadN X0.here hx rfl (hb hby own_d6_1) rfl ?_
    exact k
  by_cases hc2 : p2 = p4
  · have pre238 : ∀ t, Steps p.tables e below (s₁.setTop (mkF m 9 #[.val (.int p1), .val (.int p2), .val (.int p3), .val (.int p4)] [(.int (1 : Int32)), (.int p2)])) t → Steps p.tables e below (s₁.setTop (entryFrame m #[(.int p1), (.int p2), (.int p3), (.int p4)] 4)) t := fun t k => by
      refine pre237 _ ?_
      show Steps p.tables e below (s₁.setTop (mkF m 2 #[.val (.int p1), .val (.int p2), .val (.int p3), .val (.int p4)] [(.int p4), (.int p2)])) _
      refine XS.icmpYes X0.here hx rfl (pc0 := 2) (pc' := 7) rfl (hb hby own_d6_2) rfl (teq hc2).1 (by decide) (by decide) ?_
      show Steps p.tables e below (s₁.setTop (mkF m 7 #[.val (.int p1), .val (.int p2), .val (.int p3), .val (.int p4)] [])) _
      refine XS.iloadN X0.here hx rfl (hb hby own_d6_7) rfl ?_
      show Steps p.tables e below (s₁.setTop (mkF m 8 #[.val (.int p1), .val (.int p2), .val (.int p3), .val (.int p4)] [(.int p2)])) _
      refine XS.iconst X0.here hx rfl (hb hby own_d6_8) ?_
      exact k
    by_cases hc9 : p2 < (1 : Int32)
    · have pre239 : ∀ t, Steps p.tables e below (s₁.setTop (mkF m 29 #[.val (.int p1), .val (.int p2), .val (.int p3), .val (.int p4)] [(.int (2 : Int32)), (.int p2)])) t → Steps p.tables e below (s₁.setTop (entryFrame m #[(.int p1), (.int p2), (.int p3), (.int p4)] 4)) t := fun t k => by
        refine pre238 _ ?_
        show Steps p.tables e below (s₁.setTop (mkF m 9 #[.val (.int p1), .val (.int p2), .val (.int p3), .val (.int p4)] [(.int (1 : Int32)), (.int p2)])) _
        refine XS.icmpYes X0.here hx rfl (pc0 := 9) (pc' := 27) rfl (hb hby own_d6_9) rfl (tlt hc9).1 (by decide) (by decide) ?_
        show Steps p.tables e below (s₁.setTop (mkF m 27 #[.val (.int p1), .val (.int p2), .val (.int p3), .val (.int p4)] [])) _
        refine XS.iloadN X0.here hx rfl (hb hby own_d6_27) rfl ?_
        show Steps p.tables e below (s₁.setTop (mkF m 28 #[.val (.int p1), .val (.int p2), .val (.int p3), .val (.int p4)] [(.int p2)])) _
        refine XS.iconst X0.here hx rfl (hb hby own_d6_28) ?_
        exact k
      by_cases hc29 : p2 < (2 : Int32)
      · obtain ⟨fs, hr, hrun, hended, hW, hsame⟩ := X0.leave (v := some (.int (1 : Int32))) (fun h => by rw [Bd.returns] at h; cases h)
        refine ⟨_, _, pre239 _ ?_, hrun, hended, _, _, rfl, ?_, ⟨_, rfl⟩, hW, hsame.mono (by decide) (by decide)⟩
        · show Steps p.tables e below (s₁.setTop (mkF m 29 #[.val (.int p1), .val (.int p2), .val (.int p3), .val (.int p4)] [(.int (2 : Int32)), (.int p2)])) _
          refine XS.icmpYes X0.here hx rfl (pc0 := 29) (pc' := 53) rfl (hb hby own_d6_29) rfl (tlt hc29).1 (by decide) (by decide) ?_
          show Steps p.tables e below (s₁.setTop (mkF m 53 #[.val (.int p1), .val (.int p2), .val (.int p3), .val (.int p4)] [])) _
          refine XS.iconst X0.here hx rfl (hb hby own_d6_53) ?_
          show Steps p.tables e below (s₁.setTop (mkF m 54 #[.val (.int p1), .val (.int p2), .val (.int p3), .val (.int p4)] [(.int (1 : Int32))])) _
          exact retN X0 hx (t := .boolean) Bd.returns (by simp) (hb hby own_d6_54) hr
        · show QS Z p1 p2 p3 p4 h0 n0 _ s₁.heap _
          rw [e0]
          exact ⟨(congrArg (fun z => some (Value.int z)) (by unfold own_f_rmS; rw [if_pos hc2, if_pos hc9, if_pos hc29] : (1 : Int32) = (own_f_rmS p1 p2 p3 p4))), N0, rfl⟩
      · have pre240 : ∀ t, Steps p.tables e below (s₁.setTop (mkF m 48 #[.val (.int p1), .val (.int p2), .val (.int p3), .val (.int p4)] [(.int (((p3.toUInt32 >>> ((8 : Int32) &&& 31).toUInt32).toInt32) &&& (255 : Int32))), (.int (((p1.toUInt32 >>> ((8 : Int32) &&& 31).toUInt32).toInt32) &&& (255 : Int32)))])) t → Steps p.tables e below (s₁.setTop (entryFrame m #[(.int p1), (.int p2), (.int p3), (.int p4)] 4)) t := fun t k => by
          refine pre239 _ ?_
          show Steps p.tables e below (s₁.setTop (mkF m 29 #[.val (.int p1), .val (.int p2), .val (.int p3), .val (.int p4)] [(.int (2 : Int32)), (.int p2)])) _
          refine XS.icmpNo X0.here hx rfl (hb hby own_d6_29) rfl (flt hc29).1 ?_
          show Steps p.tables e below (s₁.setTop (mkF m 32 #[.val (.int p1), .val (.int p2), .val (.int p3), .val (.int p4)] [])) _
          refine XS.iloadN X0.here hx rfl (hb hby own_d6_32) rfl ?_
          show Steps p.tables e below (s₁.setTop (mkF m 33 #[.val (.int p1), .val (.int p2), .val (.int p3), .val (.int p4)] [(.int p1)])) _
          refine XS.bipush X0.here hx rfl (hb hby own_d6_33) ?_
          show Steps p.tables e below (s₁.setTop (mkF m 35 #[.val (.int p1), .val (.int p2), .val (.int p3), .val (.int p4)] [(.int (8 : Int32)), (.int p1)])) _
          refine XS.iushr X0.here hx rfl (hb hby own_d6_35) rfl ?_
          show Steps p.tables e below (s₁.setTop (mkF m 36 #[.val (.int p1), .val (.int p2), .val (.int p3), .val (.int p4)] [(.int ((p1.toUInt32 >>> ((8 : Int32) &&& 31).toUInt32).toInt32))])) _
          refine XS.sipush X0.here hx rfl (hb hby own_d6_36) ?_
          show Steps p.tables e below (s₁.setTop (mkF m 39 #[.val (.int p1), .val (.int p2), .val (.int p3), .val (.int p4)] [(.int (255 : Int32)), (.int ((p1.toUInt32 >>> ((8 : Int32) &&& 31).toUInt32).toInt32))])) _
          refine XS.iand X0.here hx rfl (hb hby own_d6_39) rfl ?_
          show Steps p.tables e below (s₁.setTop (mkF m 40 #[.val (.int p1), .val (.int p2), .val (.int p3), .val (.int p4)] [(.int (((p1.toUInt32 >>> ((8 : Int32) &&& 31).toUInt32).toInt32) &&& (255 : Int32)))])) _
          refine XS.iloadN X0.here hx rfl (hb hby own_d6_40) rfl ?_
          show Steps p.tables e below (s₁.setTop (mkF m 41 #[.val (.int p1), .val (.int p2), .val (.int p3), .val (.int p4)] [(.int p3), (.int (((p1.toUInt32 >>> ((8 : Int32) &&& 31).toUInt32).toInt32) &&& (255 : Int32)))])) _
          refine XS.bipush X0.here hx rfl (hb hby own_d6_41) ?_
          show Steps p.tables e below (s₁.setTop (mkF m 43 #[.val (.int p1), .val (.int p2), .val (.int p3), .val (.int p4)] [(.int (8 : Int32)), (.int p3), (.int (((p1.toUInt32 >>> ((8 : Int32) &&& 31).toUInt32).toInt32) &&& (255 : Int32)))])) _
          refine XS.iushr X0.here hx rfl (hb hby own_d6_43) rfl ?_
          show Steps p.tables e below (s₁.setTop (mkF m 44 #[.val (.int p1), .val (.int p2), .val (.int p3), .val (.int p4)] [(.int ((p3.toUInt32 >>> ((8 : Int32) &&& 31).toUInt32).toInt32)), (.int (((p1.toUInt32 >>> ((8 : Int32) &&& 31).toUInt32).toInt32) &&& (255 : Int32)))])) _
          refine XS.sipush X0.here hx rfl (hb hby own_d6_44) ?_
          show Steps p.tables e below (s₁.setTop (mkF m 47 #[.val (.int p1), .val (.int p2), .val (.int p3), .val (.int p4)] [(.int (255 : Int32)), (.int ((p3.toUInt32 >>> ((8 : Int32) &&& 31).toUInt32).toInt32)), (.int (((p1.toUInt32 >>> ((8 : Int32) &&& 31).toUInt32).toInt32) &&& (255 : Int32)))])) _
          refine XS.iand X0.here hx rfl (hb hby own_d6_47) rfl ?_
          exact k
        by_cases hc48 : (((p1.toUInt32 >>> ((8 : Int32) &&& 31).toUInt32).toInt32) &&& (255 : Int32)) = (((p3.toUInt32 >>> ((8 : Int32) &&& 31).toUInt32).toInt32) &&& (255 : Int32))
        · obtain ⟨fs, hr, hrun, hended, hW, hsame⟩ := X0.leave (v := some (.int (1 : Int32))) (fun h => by rw [Bd.returns] at h; cases h)
          refine ⟨_, _, pre240 _ ?_, hrun, hended, _, _, rfl, ?_, ⟨_, rfl⟩, hW, hsame.mono (by decide) (by decide)⟩
          · show Steps p.tables e below (s₁.setTop (mkF m 48 #[.val (.int p1), .val (.int p2), .val (.int p3), .val (.int p4)] [(.int (((p3.toUInt32 >>> ((8 : Int32) &&& 31).toUInt32).toInt32) &&& (255 : Int32))), (.int (((p1.toUInt32 >>> ((8 : Int32) &&& 31).toUInt32).toInt32) &&& (255 : Int32)))])) _
            refine XS.icmpYes X0.here hx rfl (pc0 := 48) (pc' := 53) rfl (hb hby own_d6_48) rfl (teq hc48).1 (by decide) (by decide) ?_
            show Steps p.tables e below (s₁.setTop (mkF m 53 #[.val (.int p1), .val (.int p2), .val (.int p3), .val (.int p4)] [])) _
            refine XS.iconst X0.here hx rfl (hb hby own_d6_53) ?_
            show Steps p.tables e below (s₁.setTop (mkF m 54 #[.val (.int p1), .val (.int p2), .val (.int p3), .val (.int p4)] [(.int (1 : Int32))])) _
            exact retN X0 hx (t := .boolean) Bd.returns (by simp) (hb hby own_d6_54) hr
          · show QS Z p1 p2 p3 p4 h0 n0 _ s₁.heap _
            rw [e0]
            exact ⟨(congrArg (fun z => some (Value.int z)) (by unfold own_f_rmS; rw [if_pos hc2, if_pos hc9, if_neg hc29, if_pos hc48] : (1 : Int32) = (own_f_rmS p1 p2 p3 p4))), N0, rfl⟩
        · obtain ⟨fs, hr, hrun, hended, hW, hsame⟩ := X0.leave (v := some (.int (0 : Int32))) (fun h => by rw [Bd.returns] at h; cases h)
          refine ⟨_, _, pre240 _ ?_, hrun, hended, _, _, rfl, ?_, ⟨_, rfl⟩, hW, hsame.mono (by decide) (by decide)⟩
          · show Steps p.tables e below (s₁.setTop (mkF m 48 #[.val (.int p1), .val (.int p2), .val (.int p3), .val (.int p4)] [(.int (((p3.toUInt32 >>> ((8 : Int32) &&& 31).toUInt32).toInt32) &&& (255 : Int32))), (.int (((p1.toUInt32 >>> ((8 : Int32) &&& 31).toUInt32).toInt32) &&& (255 : Int32)))])) _
            refine XS.icmpNo X0.here hx rfl (hb hby own_d6_48) rfl (feq hc48).1 ?_
            show Steps p.tables e below (s₁.setTop (mkF m 51 #[.val (.int p1), .val (.int p2), .val (.int p3), .val (.int p4)] [])) _
            refine XS.iconst X0.here hx rfl (hb hby own_d6_51) ?_
            show Steps p.tables e below (s₁.setTop (mkF m 52 #[.val (.int p1), .val (.int p2), .val (.int p3), .val (.int p4)] [(.int (0 : Int32))])) _
            exact retN X0 hx (t := .boolean) Bd.returns (by simp) (hb hby own_d6_52) hr
          · show QS Z p1 p2 p3 p4 h0 n0 _ s₁.heap _
            rw [e0]
            exact ⟨(congrArg (fun z => some (Value.int z)) (by unfold own_f_rmS; rw [if_pos hc2, if_pos hc9, if_neg hc29, if_neg hc48] : (0 : Int32) = (own_f_rmS p1 p2 p3 p4))), N0, rfl⟩
    · have pre241 : ∀ t, Steps p.tables e below (s₁.setTop (mkF m 22 #[.val (.int p1), .val (.int p2), .val (.int p3), .val (.int p4)] [(.int (p3 &&& (255 : Int32))), (.int (p1 &&& (255 : Int32)))])) t → Steps p.tables e below (s₁.setTop (entryFrame m #[(.int p1), (.int p2), (.int p3), (.int p4)] 4)) t := fun t k => by
        refine pre238 _ ?_
        show Steps p.tables e below (s₁.setTop (mkF m 9 #[.val (.int p1), .val (.int p2), .val (.int p3), .val (.int p4)] [(.int (1 : Int32)), (.int p2)])) _
        refine XS.icmpNo X0.here hx rfl (hb hby own_d6_9) rfl (flt hc9).1 ?_
        show Steps p.tables e below (s₁.setTop (mkF m 12 #[.val (.int p1), .val (.int p2), .val (.int p3), .val (.int p4)] [])) _
        refine XS.iloadN X0.here hx rfl (hb hby own_d6_12) rfl ?_
        show Steps p.tables e below (s₁.setTop (mkF m 13 #[.val (.int p1), .val (.int p2), .val (.int p3), .val (.int p4)] [(.int p1)])) _
        refine XS.sipush X0.here hx rfl (hb hby own_d6_13) ?_
        show Steps p.tables e below (s₁.setTop (mkF m 16 #[.val (.int p1), .val (.int p2), .val (.int p3), .val (.int p4)] [(.int (255 : Int32)), (.int p1)])) _
        refine XS.iand X0.here hx rfl (hb hby own_d6_16) rfl ?_
        show Steps p.tables e below (s₁.setTop (mkF m 17 #[.val (.int p1), .val (.int p2), .val (.int p3), .val (.int p4)] [(.int (p1 &&& (255 : Int32)))])) _
        refine XS.iloadN X0.here hx rfl (hb hby own_d6_17) rfl ?_
        show Steps p.tables e below (s₁.setTop (mkF m 18 #[.val (.int p1), .val (.int p2), .val (.int p3), .val (.int p4)] [(.int p3), (.int (p1 &&& (255 : Int32)))])) _
        refine XS.sipush X0.here hx rfl (hb hby own_d6_18) ?_
        show Steps p.tables e below (s₁.setTop (mkF m 21 #[.val (.int p1), .val (.int p2), .val (.int p3), .val (.int p4)] [(.int (255 : Int32)), (.int p3), (.int (p1 &&& (255 : Int32)))])) _
        refine XS.iand X0.here hx rfl (hb hby own_d6_21) rfl ?_
        exact k
      by_cases hc22 : (p1 &&& (255 : Int32)) = (p3 &&& (255 : Int32))
      · have pre242 : ∀ t, Steps p.tables e below (s₁.setTop (mkF m 29 #[.val (.int p1), .val (.int p2), .val (.int p3), .val (.int p4)] [(.int (2 : Int32)), (.int p2)])) t → Steps p.tables e below (s₁.setTop (entryFrame m #[(.int p1), (.int p2), (.int p3), (.int p4)] 4)) t := fun t k => by
          refine pre241 _ ?_
          show Steps p.tables e below (s₁.setTop (mkF m 22 #[.val (.int p1), .val (.int p2), .val (.int p3), .val (.int p4)] [(.int (p3 &&& (255 : Int32))), (.int (p1 &&& (255 : Int32)))])) _
          refine XS.icmpYes X0.here hx rfl (pc0 := 22) (pc' := 27) rfl (hb hby own_d6_22) rfl (teq hc22).1 (by decide) (by decide) ?_
          show Steps p.tables e below (s₁.setTop (mkF m 27 #[.val (.int p1), .val (.int p2), .val (.int p3), .val (.int p4)] [])) _
          refine XS.iloadN X0.here hx rfl (hb hby own_d6_27) rfl ?_
          show Steps p.tables e below (s₁.setTop (mkF m 28 #[.val (.int p1), .val (.int p2), .val (.int p3), .val (.int p4)] [(.int p2)])) _
          refine XS.iconst X0.here hx rfl (hb hby own_d6_28) ?_
          exact k
        by_cases hc29 : p2 < (2 : Int32)
        · obtain ⟨fs, hr, hrun, hended, hW, hsame⟩ := X0.leave (v := some (.int (1 : Int32))) (fun h => by rw [Bd.returns] at h; cases h)
          refine ⟨_, _, pre242 _ ?_, hrun, hended, _, _, rfl, ?_, ⟨_, rfl⟩, hW, hsame.mono (by decide) (by decide)⟩
          · show Steps p.tables e below (s₁.setTop (mkF m 29 #[.val (.int p1), .val (.int p2), .val (.int p3), .val (.int p4)] [(.int (2 : Int32)), (.int p2)])) _
            refine XS.icmpYes X0.here hx rfl (pc0 := 29) (pc' := 53) rfl (hb hby own_d6_29) rfl (tlt hc29).1 (by decide) (by decide) ?_
            show Steps p.tables e below (s₁.setTop (mkF m 53 #[.val (.int p1), .val (.int p2), .val (.int p3), .val (.int p4)] [])) _
            refine XS.iconst X0.here hx rfl (hb hby own_d6_53) ?_
            show Steps p.tables e below (s₁.setTop (mkF m 54 #[.val (.int p1), .val (.int p2), .val (.int p3), .val (.int p4)] [(.int (1 : Int32))])) _
            exact retN X0 hx (t := .boolean) Bd.returns (by simp) (hb hby own_d6_54) hr
          · show QS Z p1 p2 p3 p4 h0 n0 _ s₁.heap _
            rw [e0]
            exact ⟨(congrArg (fun z => some (Value.int z)) (by unfold own_f_rmS; rw [if_pos hc2, if_neg hc9, if_pos hc22, if_pos hc29] : (1 : Int32) = (own_f_rmS p1 p2 p3 p4))), N0, rfl⟩
        · have pre243 : ∀ t, Steps p.tables e below (s₁.setTop (mkF m 48 #[.val (.int p1), .val (.int p2), .val (.int p3), .val (.int p4)] [(.int (((p3.toUInt32 >>> ((8 : Int32) &&& 31).toUInt32).toInt32) &&& (255 : Int32))), (.int (((p1.toUInt32 >>> ((8 : Int32) &&& 31).toUInt32).toInt32) &&& (255 : Int32)))])) t → Steps p.tables e below (s₁.setTop (entryFrame m #[(.int p1), (.int p2), (.int p3), (.int p4)] 4)) t := fun t k => by
            refine pre242 _ ?_
            show Steps p.tables e below (s₁.setTop (mkF m 29 #[.val (.int p1), .val (.int p2), .val (.int p3), .val (.int p4)] [(.int (2 : Int32)), (.int p2)])) _
            refine XS.icmpNo X0.here hx rfl (hb hby own_d6_29) rfl (flt hc29).1 ?_
            show Steps p.tables e below (s₁.setTop (mkF m 32 #[.val (.int p1), .val (.int p2), .val (.int p3), .val (.int p4)] [])) _
            refine XS.iloadN X0.here hx rfl (hb hby own_d6_32) rfl ?_
            show Steps p.tables e below (s₁.setTop (mkF m 33 #[.val (.int p1), .val (.int p2), .val (.int p3), .val (.int p4)] [(.int p1)])) _
            refine XS.bipush X0.here hx rfl (hb hby own_d6_33) ?_
            show Steps p.tables e below (s₁.setTop (mkF m 35 #[.val (.int p1), .val (.int p2), .val (.int p3), .val (.int p4)] [(.int (8 : Int32)), (.int p1)])) _
            refine XS.iushr X0.here hx rfl (hb hby own_d6_35) rfl ?_
            show Steps p.tables e below (s₁.setTop (mkF m 36 #[.val (.int p1), .val (.int p2), .val (.int p3), .val (.int p4)] [(.int ((p1.toUInt32 >>> ((8 : Int32) &&& 31).toUInt32).toInt32))])) _
            refine XS.sipush X0.here hx rfl (hb hby own_d6_36) ?_
            show Steps p.tables e below (s₁.setTop (mkF m 39 #[.val (.int p1), .val (.int p2), .val (.int p3), .val (.int p4)] [(.int (255 : Int32)), (.int ((p1.toUInt32 >>> ((8 : Int32) &&& 31).toUInt32).toInt32))])) _
            refine XS.iand X0.here hx rfl (hb hby own_d6_39) rfl ?_
            show Steps p.tables e below (s₁.setTop (mkF m 40 #[.val (.int p1), .val (.int p2), .val (.int p3), .val (.int p4)] [(.int (((p1.toUInt32 >>> ((8 : Int32) &&& 31).toUInt32).toInt32) &&& (255 : Int32)))])) _
            refine XS.iloadN X0.here hx rfl (hb hby own_d6_40) rfl ?_
            show Steps p.tables e below (s₁.setTop (mkF m 41 #[.val (.int p1), .val (.int p2), .val (.int p3), .val (.int p4)] [(.int p3), (.int (((p1.toUInt32 >>> ((8 : Int32) &&& 31).toUInt32).toInt32) &&& (255 : Int32)))])) _
            refine XS.bipush X0.here hx rfl (hb hby own_d6_41) ?_
            show Steps p.tables e below (s₁.setTop (mkF m 43 #[.val (.int p1), .val (.int p2), .val (.int p3), .val (.int p4)] [(.int (8 : Int32)), (.int p3), (.int (((p1.toUInt32 >>> ((8 : Int32) &&& 31).toUInt32).toInt32) &&& (255 : Int32)))])) _
            refine XS.iushr X0.here hx rfl (hb hby own_d6_43) rfl ?_
            show Steps p.tables e below (s₁.setTop (mkF m 44 #[.val (.int p1), .val (.int p2), .val (.int p3), .val (.int p4)] [(.int ((p3.toUInt32 >>> ((8 : Int32) &&& 31).toUInt32).toInt32)), (.int (((p1.toUInt32 >>> ((8 : Int32) &&& 31).toUInt32).toInt32) &&& (255 : Int32)))])) _
            refine XS.sipush X0.here hx rfl (hb hby own_d6_44) ?_
            show Steps p.tables e below (s₁.setTop (mkF m 47 #[.val (.int p1), .val (.int p2), .val (.int p3), .val (.int p4)] [(.int (255 : Int32)), (.int ((p3.toUInt32 >>> ((8 : Int32) &&& 31).toUInt32).toInt32)), (.int (((p1.toUInt32 >>> ((8 : Int32) &&& 31).toUInt32).toInt32) &&& (255 : Int32)))])) _
            refine XS.iand X0.here hx rfl (hb hby own_d6_47) rfl ?_
            exact k
          by_cases hc48 : (((p1.toUInt32 >>> ((8 : Int32) &&& 31).toUInt32).toInt32) &&& (255 : Int32)) = (((p3.toUInt32 >>> ((8 : Int32) &&& 31).toUInt32).toInt32) &&& (255 : Int32))
          · obtain ⟨fs, hr, hrun, hended, hW, hsame⟩ := X0.leave (v := some (.int (1 : Int32))) (fun h => by rw [Bd.returns] at h; cases h)
            refine ⟨_, _, pre243 _ ?_, hrun, hended, _, _, rfl, ?_, ⟨_, rfl⟩, hW, hsame.mono (by decide) (by decide)⟩
            · show Steps p.tables e below (s₁.setTop (mkF m 48 #[.val (.int p1), .val (.int p2), .val (.int p3), .val (.int p4)] [(.int (((p3.toUInt32 >>> ((8 : Int32) &&& 31).toUInt32).toInt32) &&& (255 : Int32))), (.int (((p1.toUInt32 >>> ((8 : Int32) &&& 31).toUInt32).toInt32) &&& (255 : Int32)))])) _
              refine XS.icmpYes X0.here hx rfl (pc0 := 48) (pc' := 53) rfl (hb hby own_d6_48) rfl (teq hc48).1 (by decide) (by decide) ?_
              show Steps p.tables e below (s₁.setTop (mkF m 53 #[.val (.int p1), .val (.int p2), .val (.int p3), .val (.int p4)] [])) _
              refine XS.iconst X0.here hx rfl (hb hby own_d6_53) ?_
              show Steps p.tables e below (s₁.setTop (mkF m 54 #[.val (.int p1), .val (.int p2), .val (.int p3), .val (.int p4)] [(.int (1 : Int32))])) _
              exact retN X0 hx (t := .boolean) Bd.returns (by simp) (hb hby own_d6_54) hr
            · show QS Z p1 p2 p3 p4 h0 n0 _ s₁.heap _
              rw [e0]
              exact ⟨(congrArg (fun z => some (Value.int z)) (by unfold own_f_rmS; rw [if_pos hc2, if_neg hc9, if_pos hc22, if_neg hc29, if_pos hc48] : (1 : Int32) = (own_f_rmS p1 p2 p3 p4))), N0, rfl⟩
          · obtain ⟨fs, hr, hrun, hended, hW, hsame⟩ := X0.leave (v := some (.int (0 : Int32))) (fun h => by rw [Bd.returns] at h; cases h)
            refine ⟨_, _, pre243 _ ?_, hrun, hended, _, _, rfl, ?_, ⟨_, rfl⟩, hW, hsame.mono (by decide) (by decide)⟩
            · show Steps p.tables e below (s₁.setTop (mkF m 48 #[.val (.int p1), .val (.int p2), .val (.int p3), .val (.int p4)] [(.int (((p3.toUInt32 >>> ((8 : Int32) &&& 31).toUInt32).toInt32) &&& (255 : Int32))), (.int (((p1.toUInt32 >>> ((8 : Int32) &&& 31).toUInt32).toInt32) &&& (255 : Int32)))])) _
              refine XS.icmpNo X0.here hx rfl (hb hby own_d6_48) rfl (feq hc48).1 ?_
              show Steps p.tables e below (s₁.setTop (mkF m 51 #[.val (.int p1), .val (.int p2), .val (.int p3), .val (.int p4)] [])) _
              refine XS.iconst X0.here hx rfl (hb hby own_d6_51) ?_
              show Steps p.tables e below (s₁.setTop (mkF m 52 #[.val (.int p1), .val (.int p2), .val (.int p3), .val (.int p4)] [(.int (0 : Int32))])) _
              exact retN X0 hx (t := .boolean) Bd.returns (by simp) (hb hby own_d6_52) hr
            · show QS Z p1 p2 p3 p4 h0 n0 _ s₁.heap _
              rw [e0]
              exact ⟨(congrArg (fun z => some (Value.int z)) (by unfold own_f_rmS; rw [if_pos hc2, if_neg hc9, if_pos hc22, if_neg hc29, if_neg hc48] : (0 : Int32) = (own_f_rmS p1 p2 p3 p4))), N0, rfl⟩
      · obtain ⟨fs, hr, hrun, hended, hW, hsame⟩ := X0.leave (v := some (.int (0 : Int32))) (fun h => by rw [Bd.returns] at h; cases h)
        refine ⟨_, _, pre241 _ ?_, hrun, hended, _, _, rfl, ?_, ⟨_, rfl⟩, hW, hsame.mono (by decide) (by decide)⟩
        · show Steps p.tables e below (s₁.setTop (mkF m 22 #[.val (.int p1), .val (.int p2), .val (.int p3), .val (.int p4)] [(.int (p3 &&& (255 : Int32))), (.int (p1 &&& (255 : Int32)))])) _
          refine XS.icmpNo X0.here hx rfl (hb hby own_d6_22) rfl (feq hc22).1 ?_
          show Steps p.tables e below (s₁.setTop (mkF m 25 #[.val (.int p1), .val (.int p2), .val (.int p3), .val (.int p4)] [])) _
          refine XS.iconst X0.here hx rfl (hb hby own_d6_25) ?_
          show Steps p.tables e below (s₁.setTop (mkF m 26 #[.val (.int p1), .val (.int p2), .val (.int p3), .val (.int p4)] [(.int (0 : Int32))])) _
          exact retN X0 hx (t := .boolean) Bd.returns (by simp) (hb hby own_d6_26) hr
        · show QS Z p1 p2 p3 p4 h0 n0 _ s₁.heap _
          rw [e0]
          exact ⟨(congrArg (fun z => some (Value.int z)) (by unfold own_f_rmS; rw [if_pos hc2, if_neg hc9, if_neg hc22] : (0 : Int32) = (own_f_rmS p1 p2 p3 p4))), N0, rfl⟩
  · obtain ⟨fs, hr, hrun, hended, hW, hsame⟩ := X0.leave (v := some (.int (0 : Int32))) (fun h => by rw [Bd.returns] at h; cases h)
    refine ⟨_, _, pre237 _ ?_, hrun, hended, _, _, rfl, ?_, ⟨_, rfl⟩, hW, hsame.mono (by decide) (by decide)⟩
    · show Steps p.tables e below (s₁.setTop (mkF m 2 #[.val (.int p1), .val (.int p2), .val (.int p3), .val (.int p4)] [(.int p4), (.int p2)])) _
      refine XS.icmpNo X0.here hx rfl (hb hby own_d6_2) rfl (feq hc2).1 ?_
      show Steps p.tables e below (s₁.setTop (mkF m 5 #[.val (.int p1), .val (.int p2), .val (.int p3), .val (.int p4)] [])) _
      refine XS.iconst X0.here hx rfl (hb hby own_d6_5) ?_
      show Steps p.tables e below (s₁.setTop (mkF m 6 #[.val (.int p1), .val (.int p2), .val (.int p3), .val (.int p4)] [(.int (0 : Int32))])) _
      exact retN X0 hx (t := .boolean) Bd.returns (by simp) (hb hby own_d6_6) hr
    · show QS Z p1 p2 p3 p4 h0 n0 _ s₁.heap _
      rw [e0]
      exact ⟨(congrArg (fun z => some (Value.int z)) (by unfold own_f_rmS; rw [if_neg hc2] : (0 : Int32) = (own_f_rmS p1 p2 p3 p4))), N0, rfl⟩
theorem own_notinst {Z : State} {a0 : Array Value} {C O K : String} {n : Nat} (w : (Cond.superclass C O).before a0 Z = true) (wo : (Cond.noSuperclass O).before a0 Z = true) (wk : (Cond.instantiable K n).before a0 Z = true) (hn : C ≠ K) (ho : O ≠ K) : ∃ c t, Z.vm.findClass C = some c ∧ Z.vm.findClass K = some t ∧ Z.vm.assignable c t = false := by
  obtain ⟨c, h0⟩ := found_sup w
  obtain ⟨p, k, kp, h1, h2, h3, h4, h5, -, h7⟩ := Cond.superclass_spec h0 w
  obtain ⟨c2, k2, a1, a2, a3, a4, a5⟩ := Cond.noSuperclass_spec wo
  obtain ⟨t, kt, g0, g2, g5, g7, -⟩ := Cond.instantiable_spec wk
  cases h1.symm.trans a1
  have ne := ids_ne h0 g0 hn
  have ne2 := ids_ne a1 g0 ho
  have g8 : kt.isInterface = false := by
    cases q : kt.isInterface
    · rfl
    · simp [q] at g7
  have n2 : ∀ fuel, Z.vm.isSubclassAux fuel p t = false := fun fuel => by
    cases fuel with
    | zero => rfl
    | succ f => simp [Vm.isSubclassAux, ne2, a2, a3]
  have n3 : ∀ fuel, Z.vm.isSubclassAux fuel c t = false := fun fuel => by
    cases fuel with
    | zero => rfl
    | succ f => simp [Vm.isSubclassAux, ne, h2, h4, n2]
  refine ⟨c, t, h0, g0, ?_⟩
  show Z.vm.assignableAux (255 + 1) c t = false
  simp [Vm.assignableAux, ne, h2, g2, h5, g5, g8, Vm.isSubclass, n3]
theorem own_d7_0 : decode prog_9_method_4_code 0 = .ok (.aload_n 1, 1) := by decide +kernel
theorem own_d7_1 : decode prog_9_method_4_code 1 = .ok (.instanceof 8, 3) := by decide +kernel
theorem own_d7_4 : decode prog_9_method_4_code 4 = .ok (.ifCond .eq 40, 3) := by decide +kernel
theorem own_d7_44 : decode prog_9_method_4_code 44 = .ok (.iconst 0, 1) := by decide +kernel
theorem own_d7_45 : decode prog_9_method_4_code 45 = .ok (.ireturn, 1) := by decide +kernel
theorem own_ef_rmBE_n (m : MethodId) (a1 : Addr) : entryFrame m #[(.ref a1), .null] 3 = mkF m 0 #[.val (.ref a1), .val .null, .unset] [] := by first | (simp [entryFrame, mkF, argsToLocals, Value.category]; done) | rfl
def QBE_n (Z : State) (a1 : Addr) (h0 : Heap) (n0 : Nat) (v : Option Value) (h : Heap) (L : List Loc) : Prop := v = some (.int (0 : Int32)) ∧ Fr n0 L ∧ h = h0
set_option maxRecDepth 65536 in
set_option maxHeartbeats 40000000 in
theorem rmBE_n (l : Launch) (Z : State) (a0 : Array Value) (hw : ∀ d ∈ tables_1, d.before a0 Z = true) (ws : List Jvm.Cond) (a1 : Addr) (h0 : Heap) (n0 : Nat) (Z0 : n0 ≤ h0.size) :
    MetFree l (⟨"com/example/postbag/postbag/broker/StoredBinding", "equals", "(Ljava/lang/Object;)Z"⟩ : MethodName) (head1 (Jvm.Cond.code (⟨"com/example/postbag/postbag/broker/StoredBinding", "equals", "(Ljava/lang/Object;)Z"⟩ : MethodName) prog_9_method_4_code 3 (some .boolean) :: ws) ({ frames := 0, cells := 0, slots := 0, locals := 0 } : Room)) (fun a U => a = #[(.ref a1), .null] ∧ Z.Warmed39 U.vm ∧ U.heap = h0) (fun _ _ _ _ _ => True) (fun _ U o U' => ∃ v L, o = .returned v ∧ QBE_n Z a1 h0 n0 v U'.heap L ∧ FrameEnd U o U' L ({ frames := 0, cells := 0, slots := 0, locals := 0 } : Room).cells ({ frames := 0, cells := 0, slots := 0, locals := 0 } : Room).slots) := by
  refine MetFree.of_bodySF (plainFor_of_name own_pn4) hisR ?_
  intro p e s m args below meth c s₁ Bd hml0 hP hK
  obtain ⟨rfl, hZ, hh⟩ := hP
  have hx := Bd.exec
  have hby := Bd.bytes
  have hml : c.maxLocals = 3 := hml0
  have hown : s.vm.findClass "com/example/postbag/postbag/broker/StoredBinding" = some m.cls := findClass_of_methodNamed Bd.named
  have hnm := (name_of_methodNamed Bd.named Bd.method).1
  have X0 : Stand p l e ({ frames := 0, cells := 0, slots := 0, locals := 0 } : Room) s m #[(.ref a1), .null] below meth c s₁ [] 0 0 := Stand.of_body Bd
  have e0 : s₁.heap = h0 := by rw [← hh, Bd.state]; rfl
  have N0 := Fr.nil n0
  have K0 : Keep h0 h0 [] := Keep.refl h0 _
  have pre0 : ∀ t, Steps p.tables e below (s₁.setTop (mkF m 0 #[.val (.ref a1), .val .null, .unset] [])) t → Steps p.tables e below (s₁.setTop (entryFrame m #[(.ref a1), .null] 3)) t := fun t k => castTop (own_ef_rmBE_n m a1) k
  obtain ⟨fs, hr, hrun, hended, hW, hsame⟩ := X0.leave (v := some (.int (0 : Int32))) (fun h => by rw [Bd.returns] at h; cases h)
  refine ⟨_, _, pre0 _ ?_, hrun, hended, _, _, rfl, ?_, ⟨_, rfl⟩, hW, hsame.mono (by decide) (by decide)⟩
  · show Steps p.tables e below (s₁.setTop (mkF m 0 #[.val (.ref a1), .val .null, .unset] [])) _
    refine XS.aloadN X0.here hx rfl (hb hby own_d7_0) rfl rfl ?_
    show Steps p.tables e below (s₁.setTop (mkF m 1 #[.val (.ref a1), .val .null, .unset] [.null])) _
    refine X0.instanceofNull hx (g := (mkF m 1 #[.val (.ref a1), .val .null, .unset] [.null])) rfl rfl (hb hby own_d7_1) _ ?_
    show Steps p.tables e below (s₁.setTop (mkF m 4 #[.val (.ref a1), .val .null, .unset] [(.int (0 : Int32))])) _
    refine XS.ifYes X0.here hx rfl (pc0 := 4) (pc' := 44) rfl (hb hby own_d7_4) rfl ((if0 _ _).trans (teq (by decide : ((0 : Int32) = (0 : Int32)))).1) (by decide) (by decide) ?_
    show Steps p.tables e below (s₁.setTop (mkF m 44 #[.val (.ref a1), .val .null, .unset] [])) _
    refine XS.iconst X0.here hx rfl (hb hby own_d7_44) ?_
    show Steps p.tables e below (s₁.setTop (mkF m 45 #[.val (.ref a1), .val .null, .unset] [(.int (0 : Int32))])) _
    exact retN X0 hx (t := .boolean) Bd.returns (by simp) (hb hby own_d7_45) hr
  · show QBE_n Z a1 h0 n0 _ s₁.heap _
    rw [e0]
    exact ⟨rfl, N0, rfl⟩
theorem own_ef_rmBE_t (m : MethodId) (a1 : Addr) (a2 : Addr) : entryFrame m #[(.ref a1), (.ref a2)] 3 = mkF m 0 #[.val (.ref a1), .val (.ref a2), .unset] [] := by first | (simp [entryFrame, mkF, argsToLocals, Value.category]; done) | rfl
def QBE_t (Z : State) (a1 : Addr) (a2 : Addr) (h0 : Heap) (n0 : Nat) (v : Option Value) (h : Heap) (L : List Loc) : Prop := v = some (.int (0 : Int32)) ∧ Fr n0 L ∧ h = h0
set_option maxRecDepth 65536 in
set_option maxHeartbeats 40000000 in
theorem rmBE_t (l : Launch) (Z : State) (a0 : Array Value) (hw : ∀ d ∈ tables_1, d.before a0 Z = true) (ws : List Jvm.Cond) (a1 : Addr) (a2 : Addr) (h0 : Heap) (n0 : Nat) (Z0 : n0 ≤ h0.size) (E_a2 : Exa Z h0 a2 "java/lang/String") :
    MetFree l (⟨"com/example/postbag/postbag/broker/StoredBinding", "equals", "(Ljava/lang/Object;)Z"⟩ : MethodName) (head1 (Jvm.Cond.code (⟨"com/example/postbag/postbag/broker/StoredBinding", "equals", "(Ljava/lang/Object;)Z"⟩ : MethodName) prog_9_method_4_code 3 (some .boolean) :: ws) ({ frames := 0, cells := 0, slots := 0, locals := 0 } : Room)) (fun a U => a = #[(.ref a1), (.ref a2)] ∧ Z.Warmed39 U.vm ∧ U.heap = h0) (fun _ _ _ _ _ => True) (fun _ U o U' => ∃ v L, o = .returned v ∧ QBE_t Z a1 a2 h0 n0 v U'.heap L ∧ FrameEnd U o U' L ({ frames := 0, cells := 0, slots := 0, locals := 0 } : Room).cells ({ frames := 0, cells := 0, slots := 0, locals := 0 } : Room).slots) := by
  refine MetFree.of_bodySF (plainFor_of_name own_pn4) hisR ?_
  intro p e s m args below meth c s₁ Bd hml0 hP hK
  obtain ⟨rfl, hZ, hh⟩ := hP
  have hx := Bd.exec
  have hby := Bd.bytes
  have hml : c.maxLocals = 3 := hml0
  have hown : s.vm.findClass "com/example/postbag/postbag/broker/StoredBinding" = some m.cls := findClass_of_methodNamed Bd.named
  have hnm := (name_of_methodNamed Bd.named Bd.method).1
  have X0 : Stand p l e ({ frames := 0, cells := 0, slots := 0, locals := 0 } : Room) s m #[(.ref a1), (.ref a2)] below meth c s₁ [] 0 0 := Stand.of_body Bd
  have e0 : s₁.heap = h0 := by rw [← hh, Bd.state]; rfl
  have N0 := Fr.nil n0
  have K0 : Keep h0 h0 [] := Keep.refl h0 _
  have pre0 : ∀ t, Steps p.tables e below (s₁.setTop (mkF m 0 #[.val (.ref a1), .val (.ref a2), .unset] [])) t → Steps p.tables e below (s₁.setTop (entryFrame m #[(.ref a1), (.ref a2)] 3)) t := fun t k => castTop (own_ef_rmBE_t m a1 a2) k
  obtain ⟨T244, X244, e244, st244⟩ := instNo X0 hx hZ hown (hw _ (List.mem_of_getElem? (i := 45) rfl)) e0 E_a2 (own_notinst (hw _ (List.mem_of_getElem? (i := 68) rfl)) (hw _ (List.mem_of_getElem? (i := 69) rfl)) (hw _ (List.mem_of_getElem? (i := 1) rfl)) (by decide) (by decide)) (g := (mkF m 1 #[.val (.ref a1), .val (.ref a2), .unset] [(.ref a2)])) rfl rfl (hb hby own_d7_1)
  obtain ⟨fs, hr, hrun, hended, hW, hsame⟩ := X244.leave (v := some (.int (0 : Int32))) (fun h => by rw [Bd.returns] at h; cases h)
  refine ⟨_, _, pre0 _ ?_, hrun, hended, _, _, rfl, ?_, ⟨_, rfl⟩, hW, hsame.mono (by decide) (by decide)⟩
  · show Steps p.tables e below (s₁.setTop (mkF m 0 #[.val (.ref a1), .val (.ref a2), .unset] [])) _
    refine XS.aloadN X0.here hx rfl (hb hby own_d7_0) rfl rfl ?_
    show Steps p.tables e below (s₁.setTop (mkF m 1 #[.val (.ref a1), .val (.ref a2), .unset] [(.ref a2)])) _
    refine st244 _ ?_
    show Steps p.tables e below (T244.setTop (mkF m 4 #[.val (.ref a1), .val (.ref a2), .unset] [(.int (0 : Int32))])) _
    refine XS.ifYes X244.here hx rfl (pc0 := 4) (pc' := 44) rfl (hb hby own_d7_4) rfl ((if0 _ _).trans (teq (by decide : ((0 : Int32) = (0 : Int32)))).1) (by decide) (by decide) ?_
    show Steps p.tables e below (T244.setTop (mkF m 44 #[.val (.ref a1), .val (.ref a2), .unset] [])) _
    refine XS.iconst X244.here hx rfl (hb hby own_d7_44) ?_
    show Steps p.tables e below (T244.setTop (mkF m 45 #[.val (.ref a1), .val (.ref a2), .unset] [(.int (0 : Int32))])) _
    exact retN X244 hx (t := .boolean) Bd.returns (by simp) (hb hby own_d7_45) hr
  · show QBE_t Z a1 a2 h0 n0 _ T244.heap _
    rw [e244]
    exact ⟨rfl, N0, rfl⟩
theorem own_d7_7 : decode prog_9_method_4_code 7 = .ok (.aload_n 1, 1) := by decide +kernel
theorem own_d7_8 : decode prog_9_method_4_code 8 = .ok (.checkcast 8, 3) := by decide +kernel
theorem own_d7_11 : decode prog_9_method_4_code 11 = .ok (.astore_n 2, 1) := by decide +kernel
theorem own_d7_12 : decode prog_9_method_4_code 12 = .ok (.aload_n 0, 1) := by decide +kernel
theorem own_d7_13 : decode prog_9_method_4_code 13 = .ok (.getfield 7, 3) := by decide +kernel
theorem own_d7_16 : decode prog_9_method_4_code 16 = .ok (.aload_n 2, 1) := by decide +kernel
theorem own_d7_17 : decode prog_9_method_4_code 17 = .ok (.getfield 7, 3) := by decide +kernel
theorem own_d7_20 : decode prog_9_method_4_code 20 = .ok (.invokevirtual 16, 3) := by decide +kernel
theorem own_pd6 : parseMethodDescriptor "(Ljava/lang/Object;)Z" = some ⟨[(.object "java/lang/Object")], some .boolean⟩ := by decide +kernel
theorem own_d7_23 : decode prog_9_method_4_code 23 = .ok (.ifCond .eq 21, 3) := by decide +kernel
theorem own_d7_26 : decode prog_9_method_4_code 26 = .ok (.aload_n 0, 1) := by decide +kernel
theorem own_d7_27 : decode prog_9_method_4_code 27 = .ok (.getfield 13, 3) := by decide +kernel
theorem own_d7_30 : decode prog_9_method_4_code 30 = .ok (.aload_n 2, 1) := by decide +kernel
theorem own_d7_31 : decode prog_9_method_4_code 31 = .ok (.getfield 13, 3) := by decide +kernel
theorem own_d7_34 : decode prog_9_method_4_code 34 = .ok (.invokevirtual 16, 3) := by decide +kernel
theorem own_d7_37 : decode prog_9_method_4_code 37 = .ok (.ifCond .eq 7, 3) := by decide +kernel
theorem own_d7_40 : decode prog_9_method_4_code 40 = .ok (.iconst 1, 1) := by decide +kernel
theorem own_d7_41 : decode prog_9_method_4_code 41 = .ok (.goto 4, 3) := by decide +kernel
theorem own_ef_rmBE_s (m : MethodId) (a1 : Addr) : entryFrame m #[(.ref a1), (.ref a1)] 3 = mkF m 0 #[.val (.ref a1), .val (.ref a1), .unset] [] := by first | (simp [entryFrame, mkF, argsToLocals, Value.category]; done) | rfl
def QBE_s (Z : State) (a1 : Addr) (x1 : Addr) (y1 : Addr) (h0 : Heap) (n0 : Nat) (v : Option Value) (h : Heap) (L : List Loc) : Prop := v = some (.int (1 : Int32)) ∧ Fr n0 L ∧ h = h0
set_option maxRecDepth 65536 in
set_option maxHeartbeats 40000000 in
theorem rmBE_s (l : Launch) (Z : State) (a0 : Array Value) (hw : ∀ d ∈ tables_1, d.before a0 Z = true) (ws : List Jvm.Cond) (a1 : Addr) (x1 : Addr) (y1 : Addr) (h0 : Heap) (n0 : Nat) (Z0 : n0 ≤ h0.size) (E_a1 : Exa Z h0 a1 "com/example/postbag/postbag/broker/StoredBinding") (F_a1_exchange : Fld Z h0 a1 "com/example/postbag/postbag/broker/StoredBinding" "exchange" "Ljava/lang/String;" (.ref x1)) (F_a1_bindingKey : Fld Z h0 a1 "com/example/postbag/postbag/broker/StoredBinding" "bindingKey" "Ljava/lang/String;" (.ref y1)) (E_x1 : Exa Z h0 x1 "java/lang/String") (E_y1 : Exa Z h0 y1 "java/lang/String") :
    MetFree l (⟨"com/example/postbag/postbag/broker/StoredBinding", "equals", "(Ljava/lang/Object;)Z"⟩ : MethodName) (head1 (Jvm.Cond.code (⟨"com/example/postbag/postbag/broker/StoredBinding", "equals", "(Ljava/lang/Object;)Z"⟩ : MethodName) prog_9_method_4_code 3 (some .boolean) :: ws) ({ frames := 1, cells := 0, slots := 0, locals := 14 } : Room)) (fun a U => a = #[(.ref a1), (.ref a1)] ∧ Z.Warmed39 U.vm ∧ U.heap = h0) (fun _ _ _ _ _ => True) (fun _ U o U' => ∃ v L, o = .returned v ∧ QBE_s Z a1 x1 y1 h0 n0 v U'.heap L ∧ FrameEnd U o U' L ({ frames := 1, cells := 0, slots := 0, locals := 14 } : Room).cells ({ frames := 1, cells := 0, slots := 0, locals := 14 } : Room).slots) := by
  refine MetFree.of_bodySF (plainFor_of_name own_pn4) hisR ?_
  intro p e s m args below meth c s₁ Bd hml0 hP hK
  obtain ⟨rfl, hZ, hh⟩ := hP
  have hx := Bd.exec
  have hby := Bd.bytes
  have hml : c.maxLocals = 3 := hml0
  have hown : s.vm.findClass "com/example/postbag/postbag/broker/StoredBinding" = some m.cls := findClass_of_methodNamed Bd.named
  have hnm := (name_of_methodNamed Bd.named Bd.method).1
  have X0 : Stand p l e ({ frames := 1, cells := 0, slots := 0, locals := 14 } : Room) s m #[(.ref a1), (.ref a1)] below meth c s₁ [] 0 0 := Stand.of_body Bd
  have e0 : s₁.heap = h0 := by rw [← hh, Bd.state]; rfl
  have N0 := Fr.nil n0
  have K0 : Keep h0 h0 [] := Keep.refl h0 _
  have pre0 : ∀ t, Steps p.tables e below (s₁.setTop (mkF m 0 #[.val (.ref a1), .val (.ref a1), .unset] [])) t → Steps p.tables e below (s₁.setTop (entryFrame m #[(.ref a1), (.ref a1)] 3)) t := fun t k => castTop (own_ef_rmBE_s m a1) k
  obtain ⟨T245, X245, e245, st245⟩ := instY X0 hx hZ hown (hw _ (List.mem_of_getElem? (i := 45) rfl)) e0 (Ins.self E_a1) (g := (mkF m 1 #[.val (.ref a1), .val (.ref a1), .unset] [(.ref a1)])) rfl rfl (hb hby own_d7_1)
  obtain ⟨T246, X246, e246, st246⟩ := castY X245 hx hZ hown (hw _ (List.mem_of_getElem? (i := 45) rfl)) e245 (Ins.self E_a1) (g := (mkF m 8 #[.val (.ref a1), .val (.ref a1), .unset] [(.ref a1)])) rfl rfl (hb hby own_d7_8)
  obtain ⟨T247, X247, e247, st247⟩ := getF X246 hx hZ hown (host := "") (Or.inl (hw _ (List.mem_of_getElem? (i := 33) rfl))) Via.refl e246 F_a1_exchange (g := (mkF m 13 #[.val (.ref a1), .val (.ref a1), .val (.ref a1)] [(.ref a1)])) rfl rfl (hb hby own_d7_13)
  obtain ⟨T248, X248, e248, st248⟩ := getF X247 hx hZ hown (host := "") (Or.inl (hw _ (List.mem_of_getElem? (i := 33) rfl))) Via.refl e247 F_a1_exchange (g := (mkF m 17 #[.val (.ref a1), .val (.ref a1), .val (.ref a1)] [(.ref a1), (.ref x1)])) rfl rfl (hb hby own_d7_17)
  obtain ⟨cq249, kq249, q249a, q249b, q249c⟩ := isOf hZ e248 E_x1
  obtain ⟨_, _, ⟨T249, L249, k249, n249⟩, -, X249, ⟨Lc249, hQ249, l249, y249, z249⟩, st249⟩ := X248.virtualBack hx (y := (⟨"java/lang/String", "equals", "(Ljava/lang/Object;)Z"⟩ : MethodName)) (z := (⟨"java/lang/String", "equals", "(Ljava/lang/Object;)Z"⟩ : MethodName)) hown (mvT hZ (hw _ (List.mem_of_getElem? (i := 47) rfl))) (mvT hZ (hw _ (List.mem_of_getElem? (i := 48) rfl))) (notFace_of_selects (args := #[]) (mvT hZ (hw _ (List.mem_of_getElem? (i := 50) rfl)))) (mvT hZ (hw _ (List.mem_of_getElem? (i := 50) rfl))) (mvT hZ (hw _ (List.mem_of_getElem? (i := 49) rfl))) (by decide) (backOf (W := 0) (rmSE_s l Z a0 hw [] x1 h0 n0 (Nat.le_trans Z0 K0.1) ) hZ (hw _ (List.mem_of_getElem? (i := 51) rfl)) (hw _ (List.mem_of_getElem? (i := 9) rfl)) (by decide) (by decide)) q249a q249c (g := (mkF m 20 #[.val (.ref a1), .val (.ref a1), .val (.ref a1)] [(.ref x1), (.ref x1)])) rfl (by rw [hml]; rfl) (Steps.refl _) (argsL := [(.ref x1)]) (rest := []) (lenOf own_pd6 rfl) rfl (by show 2 * 0 + _ ≤ _; exact Nat.le_of_eq rfl) (hb hby own_d7_20) (fun _ _ => ⟨rfl, e248, (by decide : 0 + 0 ≤ _), (by decide : 0 + 0 ≤ _)⟩)
  dsimp only [Pt.U, Pt.locs, Pt.cells, Pt.slots] at X249 l249 y249 z249 st249 hQ249
  subst l249 y249 z249
  obtain ⟨rfl, N249q, e249⟩ := hQ249
  have N249 := Fr.app N0 N249q
  obtain ⟨T250, X250, e250, st250⟩ := getF X249 hx hZ hown (host := "") (Or.inl (hw _ (List.mem_of_getElem? (i := 35) rfl))) Via.refl e249 F_a1_bindingKey (g := (mkF m 27 #[.val (.ref a1), .val (.ref a1), .val (.ref a1)] [(.ref a1)])) rfl rfl (hb hby own_d7_27)
  obtain ⟨T251, X251, e251, st251⟩ := getF X250 hx hZ hown (host := "") (Or.inl (hw _ (List.mem_of_getElem? (i := 35) rfl))) Via.refl e250 F_a1_bindingKey (g := (mkF m 31 #[.val (.ref a1), .val (.ref a1), .val (.ref a1)] [(.ref a1), (.ref y1)])) rfl rfl (hb hby own_d7_31)
  obtain ⟨cq252, kq252, q252a, q252b, q252c⟩ := isOf hZ e251 E_y1
  obtain ⟨_, _, ⟨T252, L252, k252, n252⟩, -, X252, ⟨Lc252, hQ252, l252, y252, z252⟩, st252⟩ := X251.virtualBack hx (y := (⟨"java/lang/String", "equals", "(Ljava/lang/Object;)Z"⟩ : MethodName)) (z := (⟨"java/lang/String", "equals", "(Ljava/lang/Object;)Z"⟩ : MethodName)) hown (mvT hZ (hw _ (List.mem_of_getElem? (i := 47) rfl))) (mvT hZ (hw _ (List.mem_of_getElem? (i := 48) rfl))) (notFace_of_selects (args := #[]) (mvT hZ (hw _ (List.mem_of_getElem? (i := 50) rfl)))) (mvT hZ (hw _ (List.mem_of_getElem? (i := 50) rfl))) (mvT hZ (hw _ (List.mem_of_getElem? (i := 49) rfl))) (by decide) (backOf (W := 0) (rmSE_s l Z a0 hw [] y1 h0 n0 (Nat.le_trans Z0 K0.1) ) hZ (hw _ (List.mem_of_getElem? (i := 51) rfl)) (hw _ (List.mem_of_getElem? (i := 9) rfl)) (by decide) (by decide)) q252a q252c (g := (mkF m 34 #[.val (.ref a1), .val (.ref a1), .val (.ref a1)] [(.ref y1), (.ref y1)])) rfl (by rw [hml]; rfl) (Steps.refl _) (argsL := [(.ref y1)]) (rest := []) (lenOf own_pd6 rfl) rfl (by show 2 * 0 + _ ≤ _; exact Nat.le_of_eq rfl) (hb hby own_d7_34) (fun _ _ => ⟨rfl, e251, (by decide : 0 + 0 ≤ _), (by decide : 0 + 0 ≤ _)⟩)
  dsimp only [Pt.U, Pt.locs, Pt.cells, Pt.slots] at X252 l252 y252 z252 st252 hQ252
  subst l252 y252 z252
  obtain ⟨rfl, N252q, e252⟩ := hQ252
  have N252 := Fr.app N249 N252q
  obtain ⟨fs, hr, hrun, hended, hW, hsame⟩ := X252.leave (v := some (.int (1 : Int32))) (fun h => by rw [Bd.returns] at h; cases h)
  refine ⟨_, _, pre0 _ ?_, hrun, hended, _, _, rfl, ?_, ⟨_, rfl⟩, hW, hsame.mono (by decide) (by decide)⟩
  · show Steps p.tables e below (s₁.setTop (mkF m 0 #[.val (.ref a1), .val (.ref a1), .unset] [])) _
    refine XS.aloadN X0.here hx rfl (hb hby own_d7_0) rfl rfl ?_
    show Steps p.tables e below (s₁.setTop (mkF m 1 #[.val (.ref a1), .val (.ref a1), .unset] [(.ref a1)])) _
    refine st245 _ ?_
    show Steps p.tables e below (T245.setTop (mkF m 4 #[.val (.ref a1), .val (.ref a1), .unset] [(.int (1 : Int32))])) _
    refine XS.ifNo X245.here hx rfl (hb hby own_d7_4) rfl ((if0 _ _).trans (feq (by decide : ¬ ((1 : Int32) = (0 : Int32)))).1) ?_
    show Steps p.tables e below (T245.setTop (mkF m 7 #[.val (.ref a1), .val (.ref a1), .unset] [])) _
    refine XS.aloadN X245.here hx rfl (hb hby own_d7_7) rfl rfl ?_
    show Steps p.tables e below (T245.setTop (mkF m 8 #[.val (.ref a1), .val (.ref a1), .unset] [(.ref a1)])) _
    refine st246 _ ?_
    show Steps p.tables e below (T246.setTop (mkF m 11 #[.val (.ref a1), .val (.ref a1), .unset] [(.ref a1)])) _
    refine XS.astoreN X246.here hx rfl (hb hby own_d7_11) rfl rfl (l' := #[.val (.ref a1), .val (.ref a1), .val (.ref a1)]) rfl ?_
    show Steps p.tables e below (T246.setTop (mkF m 12 #[.val (.ref a1), .val (.ref a1), .val (.ref a1)] [])) _
    refine XS.aloadN X246.here hx rfl (hb hby own_d7_12) rfl rfl ?_
    show Steps p.tables e below (T246.setTop (mkF m 13 #[.val (.ref a1), .val (.ref a1), .val (.ref a1)] [(.ref a1)])) _
    refine st247 _ ?_
    show Steps p.tables e below (T247.setTop (mkF m 16 #[.val (.ref a1), .val (.ref a1), .val (.ref a1)] [(.ref x1)])) _
    refine XS.aloadN X247.here hx rfl (hb hby own_d7_16) rfl rfl ?_
    show Steps p.tables e below (T247.setTop (mkF m 17 #[.val (.ref a1), .val (.ref a1), .val (.ref a1)] [(.ref a1), (.ref x1)])) _
    refine st248 _ ?_
    show Steps p.tables e below (T248.setTop (mkF m 20 #[.val (.ref a1), .val (.ref a1), .val (.ref a1)] [(.ref x1), (.ref x1)])) _
    refine st249.trans ?_
    show Steps p.tables e below (T249.setTop (mkF m 23 #[.val (.ref a1), .val (.ref a1), .val (.ref a1)] [(.int (1 : Int32))])) _
    refine XS.ifNo X249.here hx rfl (hb hby own_d7_23) rfl ((if0 _ _).trans (feq (by decide : ¬ ((1 : Int32) = (0 : Int32)))).1) ?_
    show Steps p.tables e below (T249.setTop (mkF m 26 #[.val (.ref a1), .val (.ref a1), .val (.ref a1)] [])) _
    refine XS.aloadN X249.here hx rfl (hb hby own_d7_26) rfl rfl ?_
    show Steps p.tables e below (T249.setTop (mkF m 27 #[.val (.ref a1), .val (.ref a1), .val (.ref a1)] [(.ref a1)])) _
    refine st250 _ ?_
    show Steps p.tables e below (T250.setTop (mkF m 30 #[.val (.ref a1), .val (.ref a1), .val (.ref a1)] [(.ref y1)])) _
    refine XS.aloadN X250.here hx rfl (hb hby own_d7_30) rfl rfl ?_
    show Steps p.tables e below (T250.setTop (mkF m 31 #[.val (.ref a1), .val (.ref a1), .val (.ref a1)] [(.ref a1), (.ref y1)])) _
    refine st251 _ ?_
    show Steps p.tables e below (T251.setTop (mkF m 34 #[.val (.ref a1), .val (.ref a1), .val (.ref a1)] [(.ref y1), (.ref y1)])) _
    refine st252.trans ?_
    show Steps p.tables e below (T252.setTop (mkF m 37 #[.val (.ref a1), .val (.ref a1), .val (.ref a1)] [(.int (1 : Int32))])) _
    refine XS.ifNo X252.here hx rfl (hb hby own_d7_37) rfl ((if0 _ _).trans (feq (by decide : ¬ ((1 : Int32) = (0 : Int32)))).1) ?_
    show Steps p.tables e below (T252.setTop (mkF m 40 #[.val (.ref a1), .val (.ref a1), .val (.ref a1)] [])) _
    refine XS.iconst X252.here hx rfl (hb hby own_d7_40) ?_
    show Steps p.tables e below (T252.setTop (mkF m 41 #[.val (.ref a1), .val (.ref a1), .val (.ref a1)] [(.int (1 : Int32))])) _
    refine XS.goto X252.here hx rfl (pc0 := 41) (pc' := 45) rfl (hb hby own_d7_41) (by decide) (by decide) ?_
    show Steps p.tables e below (T252.setTop (mkF m 45 #[.val (.ref a1), .val (.ref a1), .val (.ref a1)] [(.int (1 : Int32))])) _
    exact retN X252 hx (t := .boolean) Bd.returns (by simp) (hb hby own_d7_45) hr
  · show QBE_s Z a1 x1 y1 h0 n0 _ T252.heap _
    rw [e252]
    exact ⟨rfl, N252, rfl⟩
def own_f_rmBE_e (L1 : List Int32) (L2 : List Int32) (L3 : List Int32) (L4 : List Int32) : Int32 := if (own_eqL L1 L3) = (0 : Int32) then (0 : Int32) else if (own_eqL L2 L4) = (0 : Int32) then (0 : Int32) else (1 : Int32)
theorem own_ef_rmBE_e (m : MethodId) (a1 : Addr) (a2 : Addr) : entryFrame m #[(.ref a1), (.ref a2)] 3 = mkF m 0 #[.val (.ref a1), .val (.ref a2), .unset] [] := by first | (simp [entryFrame, mkF, argsToLocals, Value.category]; done) | rfl
def QBE_e (Z : State) (a1 : Addr) (a2 : Addr) (cw : Int32) (x1 : Addr) (y1 : Addr) (x2 : Addr) (y2 : Addr) (L1 : List Int32) (L2 : List Int32) (L3 : List Int32) (L4 : List Int32) (h0 : Heap) (n0 : Nat) (v : Option Value) (h : Heap) (L : List Loc) : Prop := v = some (.int (own_f_rmBE_e L1 L2 L3 L4)) ∧ Fr n0 L ∧ h = h0
set_option maxRecDepth 65536 in
set_option maxHeartbeats 40000000 in
theorem rmBE_e (l : Launch) (Z : State) (a0 : Array Value) (hw : ∀ d ∈ tables_1, d.before a0 Z = true) (ws : List Jvm.Cond) (a1 : Addr) (a2 : Addr) (cw : Int32) (x1 : Addr) (y1 : Addr) (x2 : Addr) (y2 : Addr) (L1 : List Int32) (L2 : List Int32) (L3 : List Int32) (L4 : List Int32) (h0 : Heap) (n0 : Nat) (Z0 : n0 ≤ h0.size) (E_a2 : Exa Z h0 a2 "com/example/postbag/postbag/broker/StoredBinding") (F_a1_exchange : Fld Z h0 a1 "com/example/postbag/postbag/broker/StoredBinding" "exchange" "Ljava/lang/String;" (.ref x1)) (F_a1_bindingKey : Fld Z h0 a1 "com/example/postbag/postbag/broker/StoredBinding" "bindingKey" "Ljava/lang/String;" (.ref y1)) (F_a2_exchange : Fld Z h0 a2 "com/example/postbag/postbag/broker/StoredBinding" "exchange" "Ljava/lang/String;" (.ref x2)) (F_a2_bindingKey : Fld Z h0 a2 "com/example/postbag/postbag/broker/StoredBinding" "bindingKey" "Ljava/lang/String;" (.ref y2)) (T_x1 : own_Str Z h0 x1 L1) (T_y1 : own_Str Z h0 y1 L2) (T_x2 : own_Str Z h0 x2 L3) (T_y2 : own_Str Z h0 y2 L4) (S_COMPACT_STRINGS : Sta Z h0 "java/lang/String" "COMPACT_STRINGS" "Z" (.int cw)) (hw0 : ¬ (cw = (0 : Int32))) (ne_x1_x2 : x1 ≠ x2) (ne_y1_y2 : y1 ≠ y2) (hn_L1 : L1.length ≤ 2) (hn_L2 : L2.length ≤ 2) (hn_L3 : L3.length ≤ 2) (hn_L4 : L4.length ≤ 2) :
    MetFree l (⟨"com/example/postbag/postbag/broker/StoredBinding", "equals", "(Ljava/lang/Object;)Z"⟩ : MethodName) (head1 (Jvm.Cond.code (⟨"com/example/postbag/postbag/broker/StoredBinding", "equals", "(Ljava/lang/Object;)Z"⟩ : MethodName) prog_9_method_4_code 3 (some .boolean) :: ws) ({ frames := 2, cells := 0, slots := 0, locals := 28 } : Room)) (fun a U => a = #[(.ref a1), (.ref a2)] ∧ Z.Warmed39 U.vm ∧ U.heap = h0) (fun _ _ _ _ _ => True) (fun _ U o U' => ∃ v L, o = .returned v ∧ QBE_e Z a1 a2 cw x1 y1 x2 y2 L1 L2 L3 L4 h0 n0 v U'.heap L ∧ FrameEnd U o U' L ({ frames := 2, cells := 0, slots := 0, locals := 28 } : Room).cells ({ frames := 2, cells := 0, slots := 0, locals := 28 } : Room).slots) := by
  refine MetFree.of_bodySF (plainFor_of_name own_pn4) hisR ?_
  intro p e s m args below meth c s₁ Bd hml0 hP hK
  obtain ⟨rfl, hZ, hh⟩ := hP
  have hx := Bd.exec
  have hby := Bd.bytes
  have hml : c.maxLocals = 3 := hml0
  have hown : s.vm.findClass "com/example/postbag/postbag/broker/StoredBinding" = some m.cls := findClass_of_methodNamed Bd.named
  have hnm := (name_of_methodNamed Bd.named Bd.method).1
  have X0 : Stand p l e ({ frames := 2, cells := 0, slots := 0, locals := 28 } : Room) s m #[(.ref a1), (.ref a2)] below meth c s₁ [] 0 0 := Stand.of_body Bd
  have e0 : s₁.heap = h0 := by rw [← hh, Bd.state]; rfl
  have N0 := Fr.nil n0
  have K0 : Keep h0 h0 [] := Keep.refl h0 _
  have pre0 : ∀ t, Steps p.tables e below (s₁.setTop (mkF m 0 #[.val (.ref a1), .val (.ref a2), .unset] [])) t → Steps p.tables e below (s₁.setTop (entryFrame m #[(.ref a1), (.ref a2)] 3)) t := fun t k => castTop (own_ef_rmBE_e m a1 a2) k
  obtain ⟨T263, X263, e263, st263⟩ := instY X0 hx hZ hown (hw _ (List.mem_of_getElem? (i := 45) rfl)) e0 (Ins.self E_a2) (g := (mkF m 1 #[.val (.ref a1), .val (.ref a2), .unset] [(.ref a2)])) rfl rfl (hb hby own_d7_1)
  obtain ⟨T264, X264, e264, st264⟩ := castY X263 hx hZ hown (hw _ (List.mem_of_getElem? (i := 45) rfl)) e263 (Ins.self E_a2) (g := (mkF m 8 #[.val (.ref a1), .val (.ref a2), .unset] [(.ref a2)])) rfl rfl (hb hby own_d7_8)
  obtain ⟨T265, X265, e265, st265⟩ := getF X264 hx hZ hown (host := "") (Or.inl (hw _ (List.mem_of_getElem? (i := 33) rfl))) Via.refl e264 F_a1_exchange (g := (mkF m 13 #[.val (.ref a1), .val (.ref a2), .val (.ref a2)] [(.ref a1)])) rfl rfl (hb hby own_d7_13)
  obtain ⟨T266, X266, e266, st266⟩ := getF X265 hx hZ hown (host := "") (Or.inl (hw _ (List.mem_of_getElem? (i := 33) rfl))) Via.refl e265 F_a2_exchange (g := (mkF m 17 #[.val (.ref a1), .val (.ref a2), .val (.ref a2)] [(.ref a2), (.ref x1)])) rfl rfl (hb hby own_d7_17)
  obtain ⟨cq267, kq267, q267a, q267b, q267c⟩ := isOf hZ e266 T_x1.1
  obtain ⟨_, _, ⟨T267, L267, k267, n267⟩, -, X267, ⟨Lc267, hQ267, l267, y267, z267⟩, st267⟩ := X266.virtualBack hx (y := (⟨"java/lang/String", "equals", "(Ljava/lang/Object;)Z"⟩ : MethodName)) (z := (⟨"java/lang/String", "equals", "(Ljava/lang/Object;)Z"⟩ : MethodName)) hown (mvT hZ (hw _ (List.mem_of_getElem? (i := 47) rfl))) (mvT hZ (hw _ (List.mem_of_getElem? (i := 48) rfl))) (notFace_of_selects (args := #[]) (mvT hZ (hw _ (List.mem_of_getElem? (i := 50) rfl)))) (mvT hZ (hw _ (List.mem_of_getElem? (i := 50) rfl))) (mvT hZ (hw _ (List.mem_of_getElem? (i := 49) rfl))) (by decide) (backOf (W := 0) (rmSE l Z a0 hw [] x1 x2 cw L1 L3 h0 n0 (Nat.le_trans Z0 K0.1) T_x1 T_x2 S_COMPACT_STRINGS hw0 ne_x1_x2 hn_L1 hn_L3) hZ (hw _ (List.mem_of_getElem? (i := 51) rfl)) (hw _ (List.mem_of_getElem? (i := 9) rfl)) (by decide) (by decide)) q267a q267c (g := (mkF m 20 #[.val (.ref a1), .val (.ref a2), .val (.ref a2)] [(.ref x2), (.ref x1)])) rfl (by rw [hml]; rfl) (Steps.refl _) (argsL := [(.ref x2)]) (rest := []) (lenOf own_pd6 rfl) rfl (by show 2 * 0 + _ ≤ _; exact Nat.le_of_eq rfl) (hb hby own_d7_20) (fun _ _ => ⟨rfl, e266, (by decide : 0 + 0 ≤ _), (by decide : 0 + 0 ≤ _)⟩)
  dsimp only [Pt.U, Pt.locs, Pt.cells, Pt.slots] at X267 l267 y267 z267 st267 hQ267
  subst l267 y267 z267
  obtain ⟨rfl, N267q, e267⟩ := hQ267
  have N267 := Fr.app N0 N267q
  have pre268 : ∀ t, Steps p.tables e below (T267.setTop (mkF m 23 #[.val (.ref a1), .val (.ref a2), .val (.ref a2)] [(.int (own_eqL L1 L3))])) t → Steps p.tables e below (s₁.setTop (entryFrame m #[(.ref a1), (.ref a2)] 3)) t := fun t k => by
    refine pre0 _ ?_
    show Steps p.tables e below (s₁.setTop (mkF m 0 #[.val (.ref a1), .val (.ref a2), .unset] [])) _
    refine XS.aloadN X0.here hx rfl (hb hby own_d7_0) rfl rfl ?_
    show Steps p.tables e below (s₁.setTop (mkF m 1 #[.val (.ref a1), .val (.ref a2), .unset] [(.ref a2)])) _
    refine st263 _ ?_
    show Steps p.tables e below (T263.setTop (mkF m 4 #[.val (.ref a1), .val (.ref a2), .unset] [(.int (1 : Int32))])) _
    refine XS.ifNo X263.here hx rfl (hb hby own_d7_4) rfl ((if0 _ _).trans (feq (by decide : ¬ ((1 : Int32) = (0 : Int32)))).1) ?_
    show Steps p.tables e below (T263.setTop (mkF m 7 #[.val (.ref a1), .val (.ref a2), .unset] [])) _
    refine XS.aloadN X263.here hx rfl (hb hby own_d7_7) rfl rfl ?_
    show Steps p.tables e below (T263.setTop (mkF m 8 #[.val (.ref a1), .val (.ref a2), .unset] [(.ref a2)])) _
    refine st264 _ ?_
    show Steps p.tables e below (T264.setTop (mkF m 11 #[.val (.ref a1), .val (.ref a2), .unset] [(.ref a2)])) _
    refine XS.astoreN X264.here hx rfl (hb hby own_d7_11) rfl rfl (l' := #[.val (.ref a1), .val (.ref a2), .val (.ref a2)]) rfl ?_
    show Steps p.tables e below (T264.setTop (mkF m 12 #[.val (.ref a1), .val (.ref a2), .val (.ref a2)] [])) _
    refine XS.aloadN X264.here hx rfl (hb hby own_d7_12) rfl rfl ?_
    show Steps p.tables e below (T264.setTop (mkF m 13 #[.val (.ref a1), .val (.ref a2), .val (.ref a2)] [(.ref a1)])) _
    refine st265 _ ?_
    show Steps p.tables e below (T265.setTop (mkF m 16 #[.val (.ref a1), .val (.ref a2), .val (.ref a2)] [(.ref x1)])) _
    refine XS.aloadN X265.here hx rfl (hb hby own_d7_16) rfl rfl ?_
    show Steps p.tables e below (T265.setTop (mkF m 17 #[.val (.ref a1), .val (.ref a2), .val (.ref a2)] [(.ref a2), (.ref x1)])) _
    refine st266 _ ?_
    show Steps p.tables e below (T266.setTop (mkF m 20 #[.val (.ref a1), .val (.ref a2), .val (.ref a2)] [(.ref x2), (.ref x1)])) _
    refine st267.trans ?_
    exact k
  by_cases hc23 : (own_eqL L1 L3) = (0 : Int32)
  · obtain ⟨fs, hr, hrun, hended, hW, hsame⟩ := X267.leave (v := some (.int (0 : Int32))) (fun h => by rw [Bd.returns] at h; cases h)
    refine ⟨_, _, pre268 _ ?_, hrun, hended, _, _, rfl, ?_, ⟨_, rfl⟩, hW, hsame.mono (by decide) (by decide)⟩
    · show Steps p.tables e below (T267.setTop (mkF m 23 #[.val (.ref a1), .val (.ref a2), .val (.ref a2)] [(.int (own_eqL L1 L3))])) _
      refine XS.ifYes X267.here hx rfl (pc0 := 23) (pc' := 44) rfl (hb hby own_d7_23) rfl ((if0 _ _).trans (teq hc23).1) (by decide) (by decide) ?_
      show Steps p.tables e below (T267.setTop (mkF m 44 #[.val (.ref a1), .val (.ref a2), .val (.ref a2)] [])) _
      refine XS.iconst X267.here hx rfl (hb hby own_d7_44) ?_
      show Steps p.tables e below (T267.setTop (mkF m 45 #[.val (.ref a1), .val (.ref a2), .val (.ref a2)] [(.int (0 : Int32))])) _
      exact retN X267 hx (t := .boolean) Bd.returns (by simp) (hb hby own_d7_45) hr
    · show QBE_e Z a1 a2 cw x1 y1 x2 y2 L1 L2 L3 L4 h0 n0 _ T267.heap _
      rw [e267]
      exact ⟨(congrArg (fun z => some (Value.int z)) (by unfold own_f_rmBE_e; rw [if_pos hc23] : (0 : Int32) = (own_f_rmBE_e L1 L2 L3 L4))), N267, rfl⟩
  · obtain ⟨T269, X269, e269, st269⟩ := getF X267 hx hZ hown (host := "") (Or.inl (hw _ (List.mem_of_getElem? (i := 35) rfl))) Via.refl e267 F_a1_bindingKey (g := (mkF m 27 #[.val (.ref a1), .val (.ref a2), .val (.ref a2)] [(.ref a1)])) rfl rfl (hb hby own_d7_27)
    obtain ⟨T270, X270, e270, st270⟩ := getF X269 hx hZ hown (host := "") (Or.inl (hw _ (List.mem_of_getElem? (i := 35) rfl))) Via.refl e269 F_a2_bindingKey (g := (mkF m 31 #[.val (.ref a1), .val (.ref a2), .val (.ref a2)] [(.ref a2), (.ref y1)])) rfl rfl (hb hby own_d7_31)
    obtain ⟨cq271, kq271, q271a, q271b, q271c⟩ := isOf hZ e270 T_y1.1
    obtain ⟨_, _, ⟨T271, L271, k271, n271⟩, -, X271, ⟨Lc271, hQ271, l271, y271, z271⟩, st271⟩ := X270.virtualBack hx (y := (⟨"java/lang/String", "equals", "(Ljava/lang/Object;)Z"⟩ : MethodName)) (z := (⟨"java/lang/String", "equals", "(Ljava/lang/Object;)Z"⟩ : MethodName)) hown (mvT hZ (hw _ (List.mem_of_getElem? (i := 47) rfl))) (mvT hZ (hw _ (List.mem_of_getElem? (i := 48) rfl))) (notFace_of_selects (args := #[]) (mvT hZ (hw _ (List.mem_of_getElem? (i := 50) rfl)))) (mvT hZ (hw _ (List.mem_of_getElem? (i := 50) rfl))) (mvT hZ (hw _ (List.mem_of_getElem? (i := 49) rfl))) (by decide) (backOf (W := 0) (rmSE l Z a0 hw [] y1 y2 cw L2 L4 h0 n0 (Nat.le_trans Z0 K0.1) T_y1 T_y2 S_COMPACT_STRINGS hw0 ne_y1_y2 hn_L2 hn_L4) hZ (hw _ (List.mem_of_getElem? (i := 51) rfl)) (hw _ (List.mem_of_getElem? (i := 9) rfl)) (by decide) (by decide)) q271a q271c (g := (mkF m 34 #[.val (.ref a1), .val (.ref a2), .val (.ref a2)] [(.ref y2), (.ref y1)])) rfl (by rw [hml]; rfl) (Steps.refl _) (argsL := [(.ref y2)]) (rest := []) (lenOf own_pd6 rfl) rfl (by show 2 * 0 + _ ≤ _; exact Nat.le_of_eq rfl) (hb hby own_d7_34) (fun _ _ => ⟨rfl, e270, (by decide : 0 + 0 ≤ _), (by decide : 0 + 0 ≤ _)⟩)
    dsimp only [Pt.U, Pt.locs, Pt.cells, Pt.slots] at X271 l271 y271 z271 st271 hQ271
    subst l271 y271 z271
    obtain ⟨rfl, N271q, e271⟩ := hQ271
    have N271 := Fr.app N267 N271q
    have pre272 : ∀ t, Steps p.tables e below (T271.setTop (mkF m 37 #[.val (.ref a1), .val (.ref a2), .val (.ref a2)] [(.int (own_eqL L2 L4))])) t → Steps p.tables e below (s₁.setTop (entryFrame m #[(.ref a1), (.ref a2)] 3)) t := fun t k => by
      refine pre268 _ ?_
      show Steps p.tables e below (T267.setTop (mkF m 23 #[.val (.ref a1), .val (.ref a2), .val (.ref a2)] [(.int (own_eqL L1 L3))])) _
      refine XS.ifNo X267.here hx rfl (hb hby own_d7_23) rfl ((if0 _ _).trans (feq hc23).1) ?_
      show Steps p.tables e below (T267.setTop (mkF m 26 #[.val (.ref a1), .val (.ref a2), .val (.ref a2)] [])) _
      refine XS.aloadN X267.here hx rfl (hb hby own_d7_26) rfl rfl ?_
      show Steps p.tables e below (T267.setTop (mkF m 27 #[.val (.ref a1), .val (.ref a2), .val (.ref a2)] [(.ref a1)])) _
      refine st269 _ ?_
      show Steps p.tables e below (T269.setTop (mkF m 30 #[.val (.ref a1), .val (.ref a2), .val (.ref a2)] [(.ref y1)])) _
      refine XS.aloadN X269.here hx rfl (hb hby own_d7_30) rfl rfl ?_
      show Steps p.tables e below (T269.setTop (mkF m 31 #[.val (.ref a1), .val (.ref a2), .val (.ref a2)] [(.ref a2), (.ref y1)])) _
      refine st270 _ ?_
      show Steps p.tables e below (T270.setTop (mkF m 34 #[.val (.ref a1), .val (.ref a2), .val (.ref a2)] [(.ref y2), (.ref y1)])) _
      refine st271.trans ?_
      exact k
    by_cases hc37 : (own_eqL L2 L4) = (0 : Int32)
    · obtain ⟨fs, hr, hrun, hended, hW, hsame⟩ := X271.leave (v := some (.int (0 : Int32))) (fun h => by rw [Bd.returns] at h; cases h)
      refine ⟨_, _, pre272 _ ?_, hrun, hended, _, _, rfl, ?_, ⟨_, rfl⟩, hW, hsame.mono (by decide) (by decide)⟩
      · show Steps p.tables e below (T271.setTop (mkF m 37 #[.val (.ref a1), .val (.ref a2), .val (.ref a2)] [(.int (own_eqL L2 L4))])) _
        refine XS.ifYes X271.here hx rfl (pc0 := 37) (pc' := 44) rfl (hb hby own_d7_37) rfl ((if0 _ _).trans (teq hc37).1) (by decide) (by decide) ?_
        show Steps p.tables e below (T271.setTop (mkF m 44 #[.val (.ref a1), .val (.ref a2), .val (.ref a2)] [])) _
        refine XS.iconst X271.here hx rfl (hb hby own_d7_44) ?_
        show Steps p.tables e below (T271.setTop (mkF m 45 #[.val (.ref a1), .val (.ref a2), .val (.ref a2)] [(.int (0 : Int32))])) _
        exact retN X271 hx (t := .boolean) Bd.returns (by simp) (hb hby own_d7_45) hr
      · show QBE_e Z a1 a2 cw x1 y1 x2 y2 L1 L2 L3 L4 h0 n0 _ T271.heap _
        rw [e271]
        exact ⟨(congrArg (fun z => some (Value.int z)) (by unfold own_f_rmBE_e; rw [if_neg hc23, if_pos hc37] : (0 : Int32) = (own_f_rmBE_e L1 L2 L3 L4))), N271, rfl⟩
    · obtain ⟨fs, hr, hrun, hended, hW, hsame⟩ := X271.leave (v := some (.int (1 : Int32))) (fun h => by rw [Bd.returns] at h; cases h)
      refine ⟨_, _, pre272 _ ?_, hrun, hended, _, _, rfl, ?_, ⟨_, rfl⟩, hW, hsame.mono (by decide) (by decide)⟩
      · show Steps p.tables e below (T271.setTop (mkF m 37 #[.val (.ref a1), .val (.ref a2), .val (.ref a2)] [(.int (own_eqL L2 L4))])) _
        refine XS.ifNo X271.here hx rfl (hb hby own_d7_37) rfl ((if0 _ _).trans (feq hc37).1) ?_
        show Steps p.tables e below (T271.setTop (mkF m 40 #[.val (.ref a1), .val (.ref a2), .val (.ref a2)] [])) _
        refine XS.iconst X271.here hx rfl (hb hby own_d7_40) ?_
        show Steps p.tables e below (T271.setTop (mkF m 41 #[.val (.ref a1), .val (.ref a2), .val (.ref a2)] [(.int (1 : Int32))])) _
        refine XS.goto X271.here hx rfl (pc0 := 41) (pc' := 45) rfl (hb hby own_d7_41) (by decide) (by decide) ?_
        show Steps p.tables e below (T271.setTop (mkF m 45 #[.val (.ref a1), .val (.ref a2), .val (.ref a2)] [(.int (1 : Int32))])) _
        exact retN X271 hx (t := .boolean) Bd.returns (by simp) (hb hby own_d7_45) hr
      · show QBE_e Z a1 a2 cw x1 y1 x2 y2 L1 L2 L3 L4 h0 n0 _ T271.heap _
        rw [e271]
        exact ⟨(congrArg (fun z => some (Value.int z)) (by unfold own_f_rmBE_e; rw [if_neg hc23, if_neg hc37] : (1 : Int32) = (own_f_rmBE_e L1 L2 L3 L4))), N271, rfl⟩
theorem own_tri (x : Int32) (h : 0 ≤ x.toInt) : (x % (3 : Int32)) = (0 : Int32) ∨ (x % (3 : Int32)) = (1 : Int32) ∨ (x % (3 : Int32)) = (2 : Int32) := by
  have h2 := (c_irem x 3 3 (by decide)).1 h
  simp only [← Int32.toInt_inj]
  have e0 : (0 : Int32).toInt = 0 := by decide
  have e1 : (1 : Int32).toInt = 1 := by decide
  have e2 : (2 : Int32).toInt = 2 := by decide
  omega
theorem own_l (x : Int32) : ((x &&& (3 : Int32)) % (3 : Int32)) = (0 : Int32) ∨ ((x &&& (3 : Int32)) % (3 : Int32)) = (1 : Int32) ∨ ((x &&& (3 : Int32)) % (3 : Int32)) = (2 : Int32) := by
  have h1 := c_mask x 3 2 (by decide) (by decide)
  exact own_tri _ (by omega)
theorem own_by (x y : Int32) : (nar .byte ((nar .char ((x &&& (255 : Int32)).toUInt32.toUInt16.toUInt32.toInt32)).toInt8.toInt32)) = (nar .byte ((nar .char ((y &&& (255 : Int32)).toUInt32.toUInt16.toUInt32.toInt32)).toInt8.toInt32)) ↔ (x &&& (255 : Int32)) = (y &&& (255 : Int32)) := by
  have k : ∀ z : Int32, ∃ b : Int, ((nar .byte ((nar .char ((z &&& (255 : Int32)).toUInt32.toUInt16.toUInt32.toInt32)).toInt8.toInt32)).toInt - (z &&& (255 : Int32)).toInt) % 256 = 0 ∧ 0 ≤ (z &&& (255 : Int32)).toInt ∧ (z &&& (255 : Int32)).toInt < 256 ∧ b = 0 := fun z => by
    have h1 := c_mask z 255 8 (by decide) (by decide)
    have h2 := c_i2c (z &&& (255 : Int32))
    have h3 := c_i2c ((z &&& (255 : Int32)).toUInt32.toUInt16.toUInt32.toInt32)
    have h4 := c_i2b ((z &&& (255 : Int32)).toUInt32.toUInt16.toUInt32.toInt32.toUInt32.toUInt16.toUInt32.toInt32)
    have h5 := c_i2b ((z &&& (255 : Int32)).toUInt32.toUInt16.toUInt32.toInt32.toUInt32.toUInt16.toUInt32.toInt32.toInt8.toInt32)
    refine ⟨0, ?_, by omega, by omega, rfl⟩
    show (((z &&& (255 : Int32)).toUInt32.toUInt16.toUInt32.toInt32.toUInt32.toUInt16.toUInt32.toInt32.toInt8.toInt32.toInt8.toInt32).toInt - _) % 256 = 0
    omega
  obtain ⟨-, kx, kx1, kx2, -⟩ := k x
  obtain ⟨-, ky, ky1, ky2, -⟩ := k y
  constructor
  · intro q; rw [← Int32.toInt_inj]; rw [q] at kx; omega
  · intro q; rw [q]
theorem own_same (b1 l1 b2 l2 : Int32) (h1 : l1 = (0 : Int32) ∨ l1 = (1 : Int32) ∨ l1 = (2 : Int32)) (h2 : l2 = (0 : Int32) ∨ l2 = (1 : Int32) ∨ l2 = (2 : Int32)) : own_f_rmS b1 l1 b2 l2 = own_eqL (own_mk b1 l1) (own_mk b2 l2) := by
  have q0 : own_c0 b1 = own_c0 b2 ↔ (b1 &&& (255 : Int32)) = (b2 &&& (255 : Int32)) := own_by b1 b2
  have q1 : own_c1 b1 = own_c1 b2 ↔ (((b1.toUInt32 >>> ((8 : Int32) &&& 31).toUInt32).toInt32) &&& (255 : Int32)) = (((b2.toUInt32 >>> ((8 : Int32) &&& 31).toUInt32).toInt32) &&& (255 : Int32)) := own_by ((b1.toUInt32 >>> ((8 : Int32) &&& 31).toUInt32).toInt32) ((b2.toUInt32 >>> ((8 : Int32) &&& 31).toUInt32).toInt32)
  unfold own_f_rmS own_eqL own_mk
  generalize own_c0 b1 = x1 at *
  generalize own_c0 b2 = x2 at *
  generalize own_c1 b1 = y1 at *
  generalize own_c1 b2 = y2 at *
  generalize (((b1.toUInt32 >>> ((8 : Int32) &&& 31).toUInt32).toInt32) &&& (255 : Int32)) = n1 at *
  generalize (((b2.toUInt32 >>> ((8 : Int32) &&& 31).toUInt32).toInt32) &&& (255 : Int32)) = n2 at *
  generalize (b1 &&& (255 : Int32)) = m1 at *
  generalize (b2 &&& (255 : Int32)) = m2 at *
  rcases h1 with rfl | rfl | rfl <;> rcases h2 with rfl | rfl | rfl <;> simp only [List.cons.injEq, q0, q1, and_true] <;> simp <;> grind
theorem own_pd7 : parseMethodDescriptor "(II)Ljava/lang/String;" = some ⟨[.int, .int], some (.object "java/lang/String")⟩ := by decide +kernel
theorem own_pd8 : parseMethodDescriptor "(Ljava/lang/String;Ljava/lang/String;)V" = some ⟨[(.object "java/lang/String"), (.object "java/lang/String")], none⟩ := by decide +kernel
theorem own_pd9 : parseMethodDescriptor "(IIII)Z" = some ⟨[.int, .int, .int, .int], some .boolean⟩ := by decide +kernel
theorem own_join {A G : Prop} (h1 : A → G) (h2 : A) : G := h1 h2
theorem own_ef_rm0 (m : MethodId) (p0 : Int32) (p1 : Int32) (p2 : Int32) (p3 : Int32) (p4 : Int32) : entryFrame m #[(.int p0), (.int p1), (.int p2), (.int p3), (.int p4)] maxLocals = mkF m 0 #[.val (.int p0), .val (.int p1), .val (.int p2), .val (.int p3), .val (.int p4), .unset, .unset, .unset, .unset, .unset, .unset, .unset, .unset] [] := by first | (simp [entryFrame, mkF, argsToLocals, Value.category, maxLocals]; done) | rfl
def Q0 (Z : State) (p0 : Int32) (p1 : Int32) (p2 : Int32) (p3 : Int32) (p4 : Int32) (cw : Int32) (h0 : Heap) (n0 : Nat) (v : Option Value) (h : Heap) (L : List Loc) : Prop := v = some (.int (1 : Int32)) ∧ Fr n0 L
set_option maxRecDepth 65536 in
set_option maxHeartbeats 40000000 in
theorem rm0 (l : Launch) (Z : State) (a0 : Array Value) (hw : ∀ d ∈ tables_1, d.before a0 Z = true) (ws : List Jvm.Cond) (p0 : Int32) (p1 : Int32) (p2 : Int32) (p3 : Int32) (p4 : Int32) (cw : Int32) (h0 : Heap) (n0 : Nat) (Z0 : n0 ≤ h0.size) (S_COMPACT_STRINGS : Sta Z h0 "java/lang/String" "COMPACT_STRINGS" "Z" (.int cw)) (hw0 : ¬ (cw = (0 : Int32))) :
    MetFree l x (head1 (Jvm.Cond.code x code maxLocals ret :: ws) room_1) (fun a U => a = #[(.int p0), (.int p1), (.int p2), (.int p3), (.int p4)] ∧ Z.Warmed39 U.vm ∧ U.heap = h0 ∧ CHv Z own_EL U.vm h0) (fun _ _ _ _ _ => True) (fun _ U o U' => ∃ v L, o = .returned v ∧ Q0 Z p0 p1 p2 p3 p4 cw h0 n0 v U'.heap L ∧ CHr Z own_EL U.vm U.heap U'.vm U'.heap ∧ ReturnedEndW U o U' L room_1.cells room_1.slots) := by
  refine MetFree.of_bodySF (plainFor_of_name own_pn2) hisR ?_
  intro p e s m args below meth c s₁ Bd hml0 hP hK
  obtain ⟨rfl, hZ, hh, hCH⟩ := hP
  have hx := Bd.exec
  have hby := Bd.bytes
  have hml : c.maxLocals = 13 := hml0
  have hown : s.vm.findClass "com/example/postbag/postbag/broker/StoredBindingEqualsPinLaw" = some m.cls := findClass_of_methodNamed Bd.named
  have hnm := (name_of_methodNamed Bd.named Bd.method).1
  have X0 : Stand p l e room_1 (s.setVm s.vm) m #[(.int p0), (.int p1), (.int p2), (.int p3), (.int p4)] below meth c s₁ [] 0 0 := Stand.of_body Bd
  have e0 : s₁.heap = h0 := by rw [← hh, Bd.state]; rfl
  have N0 := Fr.nil n0
  have K0 : Keep h0 h0 [] := Keep.refl h0 _
  have pre0 : ∀ t, Steps p.tables e below (s₁.setTop (mkF m 0 #[.val (.int p0), .val (.int p1), .val (.int p2), .val (.int p3), .val (.int p4), .unset, .unset, .unset, .unset, .unset, .unset, .unset, .unset] [])) t → Steps p.tables e below (s₁.setTop (entryFrame m #[(.int p0), (.int p1), (.int p2), (.int p3), (.int p4)] maxLocals)) t := fun t k => castTop (own_ef_rm0 m p0 p1 p2 p3 p4) k
  have hS : s.Since s.vm 0 := (State.WarmedH.refl s).since 0
  have hk : 0 ≤ h0.size := Nat.zero_le _
  have CH0 := CHr.refl hCH
  have hEL := own_hEL hw
  have wS := own_wS hw
  refine own_join (A := ∃ (e2 : Int32) (k2 : Int32) (l7 : Int32) (l8 : Int32) (TJ : State), Stand p l e room_1 (s.setVm s.vm) m #[(.int p0), (.int p1), (.int p2), (.int p3), (.int p4)] below meth c TJ [] 0 0 ∧ TJ.heap = h0 ∧ (∀ t, Steps p.tables e below (TJ.setTop (mkF m 69 #[.val (.int p0), .val (.int p1), .val (.int e2), .val (.int k2), .val (.int p4), .val (.int ((p4 &&& (3 : Int32)) % (3 : Int32))), .val (.int ((((p4.toUInt32 >>> ((2 : Int32) &&& 31).toUInt32).toInt32) &&& (3 : Int32)) % (3 : Int32))), .val (.int l7), .val (.int l8), .unset, .unset, .unset, .unset] [])) t → Steps p.tables e below (s₁.setTop (entryFrame m #[(.int p0), (.int p1), (.int p2), (.int p3), (.int p4)] maxLocals)) t) ∧ (l7 = (0 : Int32) ∨ l7 = (1 : Int32) ∨ l7 = (2 : Int32)) ∧ (l8 = (0 : Int32) ∨ l8 = (1 : Int32) ∨ l8 = (2 : Int32))) ?_ ?_
  · rintro ⟨e2, k2, l7, l8, TJ, XJ, eJ, preJ, h7, h8⟩
    obtain ⟨T280, h280, X280, e280, E280, A280, D280, -, st280⟩ := newO XJ hx hZ hown (hw _ (List.mem_of_getElem? (i := 0) rfl)) (hw _ (List.mem_of_getElem? (i := 1) rfl)) (hw _ (List.mem_of_getElem? (i := 2) rfl)) eJ (g := (mkF m 78 #[.val (.int p0), .val (.int p1), .val (.int e2), .val (.int k2), .val (.int p4), .val (.int ((p4 &&& (3 : Int32)) % (3 : Int32))), .val (.int ((((p4.toUInt32 >>> ((2 : Int32) &&& 31).toUInt32).toInt32) &&& (3 : Int32)) % (3 : Int32))), .val (.int l7), .val (.int l8), .val (.int (((p4.toUInt32 >>> ((10 : Int32) &&& 31).toUInt32).toInt32) &&& (3 : Int32))), .unset, .unset, .unset] [])) rfl (hb hby at_78) (by decide) (by decide)
    obtain ⟨b280, g280⟩ : ∃ z, z = h0.size := ⟨_, rfl⟩
    rw [← g280] at A280 D280 st280
    have gg_b280 : n0 ≤ b280 := Nat.le_trans (Nat.le_trans Z0 K0.1) (Nat.le_of_eq g280.symm)
    have sz_b280 : h0.size ≤ b280 := Nat.le_trans K0.1 (Nat.le_of_eq g280.symm)
    have K280 := K0.ext E280
    have sf280_b280 := Safe.ext E280 CH0.1 (Safe.new (Nat.le_of_eq g280.symm) : Safe Z own_EL _ _ b280)
    have CH280 := CH0.trans (CHr.ext E280 CH0.1)
    have hk := Nat.le_trans hk E280.1
    have F280_exchange : Fld Z h280 b280 "com/example/postbag/postbag/broker/StoredBinding" "exchange" "Ljava/lang/String;" .null := D280 (Or.inr (hw _ (List.mem_of_getElem? (i := 34) rfl))) (ty := (.object "java/lang/String")) (by decide)
    have F280_bindingKey : Fld Z h280 b280 "com/example/postbag/postbag/broker/StoredBinding" "bindingKey" "Ljava/lang/String;" .null := D280 (Or.inr (hw _ (List.mem_of_getElem? (i := 36) rfl))) (ty := (.object "java/lang/String")) (by decide)
    have Q281 := (S_COMPACT_STRINGS.ext E280)
    have pre282 : ∀ t, Steps p.tables e below (T280.setTop (mkF m 85 #[.val (.int p0), .val (.int p1), .val (.int e2), .val (.int k2), .val (.int p4), .val (.int ((p4 &&& (3 : Int32)) % (3 : Int32))), .val (.int ((((p4.toUInt32 >>> ((2 : Int32) &&& 31).toUInt32).toInt32) &&& (3 : Int32)) % (3 : Int32))), .val (.int l7), .val (.int l8), .val (.int (((p4.toUInt32 >>> ((10 : Int32) &&& 31).toUInt32).toInt32) &&& (3 : Int32))), .unset, .unset, .unset] [(.int ((p4 &&& (3 : Int32)) % (3 : Int32))), (.int p0), (.ref b280), (.ref b280)])) t → Steps p.tables e below (s₁.setTop (entryFrame m #[(.int p0), (.int p1), (.int p2), (.int p3), (.int p4)] maxLocals)) t := fun t k => by
      refine preJ _ ?_
      show Steps p.tables e below (TJ.setTop (mkF m 69 #[.val (.int p0), .val (.int p1), .val (.int e2), .val (.int k2), .val (.int p4), .val (.int ((p4 &&& (3 : Int32)) % (3 : Int32))), .val (.int ((((p4.toUInt32 >>> ((2 : Int32) &&& 31).toUInt32).toInt32) &&& (3 : Int32)) % (3 : Int32))), .val (.int l7), .val (.int l8), .unset, .unset, .unset, .unset] [])) _
      refine XS.iload XJ.here hx rfl (hb hby at_69) rfl ?_
      show Steps p.tables e below (TJ.setTop (mkF m 71 #[.val (.int p0), .val (.int p1), .val (.int e2), .val (.int k2), .val (.int p4), .val (.int ((p4 &&& (3 : Int32)) % (3 : Int32))), .val (.int ((((p4.toUInt32 >>> ((2 : Int32) &&& 31).toUInt32).toInt32) &&& (3 : Int32)) % (3 : Int32))), .val (.int l7), .val (.int l8), .unset, .unset, .unset, .unset] [(.int p4)])) _
      refine XS.bipush XJ.here hx rfl (hb hby at_71) ?_
      show Steps p.tables e below (TJ.setTop (mkF m 73 #[.val (.int p0), .val (.int p1), .val (.int e2), .val (.int k2), .val (.int p4), .val (.int ((p4 &&& (3 : Int32)) % (3 : Int32))), .val (.int ((((p4.toUInt32 >>> ((2 : Int32) &&& 31).toUInt32).toInt32) &&& (3 : Int32)) % (3 : Int32))), .val (.int l7), .val (.int l8), .unset, .unset, .unset, .unset] [(.int (10 : Int32)), (.int p4)])) _
      refine XS.iushr XJ.here hx rfl (hb hby at_73) rfl ?_
      show Steps p.tables e below (TJ.setTop (mkF m 74 #[.val (.int p0), .val (.int p1), .val (.int e2), .val (.int k2), .val (.int p4), .val (.int ((p4 &&& (3 : Int32)) % (3 : Int32))), .val (.int ((((p4.toUInt32 >>> ((2 : Int32) &&& 31).toUInt32).toInt32) &&& (3 : Int32)) % (3 : Int32))), .val (.int l7), .val (.int l8), .unset, .unset, .unset, .unset] [(.int ((p4.toUInt32 >>> ((10 : Int32) &&& 31).toUInt32).toInt32))])) _
      refine XS.iconst XJ.here hx rfl (hb hby at_74) ?_
      show Steps p.tables e below (TJ.setTop (mkF m 75 #[.val (.int p0), .val (.int p1), .val (.int e2), .val (.int k2), .val (.int p4), .val (.int ((p4 &&& (3 : Int32)) % (3 : Int32))), .val (.int ((((p4.toUInt32 >>> ((2 : Int32) &&& 31).toUInt32).toInt32) &&& (3 : Int32)) % (3 : Int32))), .val (.int l7), .val (.int l8), .unset, .unset, .unset, .unset] [(.int (3 : Int32)), (.int ((p4.toUInt32 >>> ((10 : Int32) &&& 31).toUInt32).toInt32))])) _
      refine XS.iand XJ.here hx rfl (hb hby at_75) rfl ?_
      show Steps p.tables e below (TJ.setTop (mkF m 76 #[.val (.int p0), .val (.int p1), .val (.int e2), .val (.int k2), .val (.int p4), .val (.int ((p4 &&& (3 : Int32)) % (3 : Int32))), .val (.int ((((p4.toUInt32 >>> ((2 : Int32) &&& 31).toUInt32).toInt32) &&& (3 : Int32)) % (3 : Int32))), .val (.int l7), .val (.int l8), .unset, .unset, .unset, .unset] [(.int (((p4.toUInt32 >>> ((10 : Int32) &&& 31).toUInt32).toInt32) &&& (3 : Int32)))])) _
      refine XS.istore XJ.here hx rfl (hb hby at_76) rfl (l' := #[.val (.int p0), .val (.int p1), .val (.int e2), .val (.int k2), .val (.int p4), .val (.int ((p4 &&& (3 : Int32)) % (3 : Int32))), .val (.int ((((p4.toUInt32 >>> ((2 : Int32) &&& 31).toUInt32).toInt32) &&& (3 : Int32)) % (3 : Int32))), .val (.int l7), .val (.int l8), .val (.int (((p4.toUInt32 >>> ((10 : Int32) &&& 31).toUInt32).toInt32) &&& (3 : Int32))), .unset, .unset, .unset]) rfl ?_
      show Steps p.tables e below (TJ.setTop (mkF m 78 #[.val (.int p0), .val (.int p1), .val (.int e2), .val (.int k2), .val (.int p4), .val (.int ((p4 &&& (3 : Int32)) % (3 : Int32))), .val (.int ((((p4.toUInt32 >>> ((2 : Int32) &&& 31).toUInt32).toInt32) &&& (3 : Int32)) % (3 : Int32))), .val (.int l7), .val (.int l8), .val (.int (((p4.toUInt32 >>> ((10 : Int32) &&& 31).toUInt32).toInt32) &&& (3 : Int32))), .unset, .unset, .unset] [])) _
      refine st280 _ ?_
      show Steps p.tables e below (T280.setTop (mkF m 81 #[.val (.int p0), .val (.int p1), .val (.int e2), .val (.int k2), .val (.int p4), .val (.int ((p4 &&& (3 : Int32)) % (3 : Int32))), .val (.int ((((p4.toUInt32 >>> ((2 : Int32) &&& 31).toUInt32).toInt32) &&& (3 : Int32)) % (3 : Int32))), .val (.int l7), .val (.int l8), .val (.int (((p4.toUInt32 >>> ((10 : Int32) &&& 31).toUInt32).toInt32) &&& (3 : Int32))), .unset, .unset, .unset] [(.ref b280)])) _
      refine XS.dup X280.here hx rfl (hb hby at_81) rfl rfl ?_
      show Steps p.tables e below (T280.setTop (mkF m 82 #[.val (.int p0), .val (.int p1), .val (.int e2), .val (.int k2), .val (.int p4), .val (.int ((p4 &&& (3 : Int32)) % (3 : Int32))), .val (.int ((((p4.toUInt32 >>> ((2 : Int32) &&& 31).toUInt32).toInt32) &&& (3 : Int32)) % (3 : Int32))), .val (.int l7), .val (.int l8), .val (.int (((p4.toUInt32 >>> ((10 : Int32) &&& 31).toUInt32).toInt32) &&& (3 : Int32))), .unset, .unset, .unset] [(.ref b280), (.ref b280)])) _
      refine XS.iloadN X280.here hx rfl (hb hby at_82) rfl ?_
      show Steps p.tables e below (T280.setTop (mkF m 83 #[.val (.int p0), .val (.int p1), .val (.int e2), .val (.int k2), .val (.int p4), .val (.int ((p4 &&& (3 : Int32)) % (3 : Int32))), .val (.int ((((p4.toUInt32 >>> ((2 : Int32) &&& 31).toUInt32).toInt32) &&& (3 : Int32)) % (3 : Int32))), .val (.int l7), .val (.int l8), .val (.int (((p4.toUInt32 >>> ((10 : Int32) &&& 31).toUInt32).toInt32) &&& (3 : Int32))), .unset, .unset, .unset] [(.int p0), (.ref b280), (.ref b280)])) _
      refine XS.iload X280.here hx rfl (hb hby at_83) rfl ?_
      exact k
    obtain ⟨_, _, ⟨T283, L283, k283, n283⟩, -, XC283, hSC283, hgC283, ⟨Lc283, hQ283, l283, y283, z283, CR283⟩, st283⟩ := callSS X280 hx (y := (⟨"com/example/postbag/postbag/broker/StoredBindingEqualsPinLaw", "mk", "(II)Ljava/lang/String;"⟩ : MethodName)) hown (mvT hZ (hw _ (List.mem_of_getElem? (i := 3) rfl))) (mvT hZ (hw _ (List.mem_of_getElem? (i := 4) rfl))) (mvT hZ (hw _ (List.mem_of_getElem? (i := 5) rfl))) (mvT hZ (hw _ (List.mem_of_getElem? (i := 6) rfl))) (by decide) (backOfSH (W := 2) (rmM l Z a0 hw [] p0 ((p4 &&& (3 : Int32)) % (3 : Int32)) cw h280 n0 (Nat.le_trans Z0 K280.1) Q281 hw0) hZ (hw _ (List.mem_of_getElem? (i := 6) rfl)) (hw _ (List.mem_of_getElem? (i := 5) rfl)) (by decide) (by decide) hEL CH280.1) (g := (mkF m 85 #[.val (.int p0), .val (.int p1), .val (.int e2), .val (.int k2), .val (.int p4), .val (.int ((p4 &&& (3 : Int32)) % (3 : Int32))), .val (.int ((((p4.toUInt32 >>> ((2 : Int32) &&& 31).toUInt32).toInt32) &&& (3 : Int32)) % (3 : Int32))), .val (.int l7), .val (.int l8), .val (.int (((p4.toUInt32 >>> ((10 : Int32) &&& 31).toUInt32).toInt32) &&& (3 : Int32))), .unset, .unset, .unset] [(.int ((p4 &&& (3 : Int32)) % (3 : Int32))), (.int p0), (.ref b280), (.ref b280)])) rfl (by rw [hml]; rfl) (argsL := [(.int p0), (.int ((p4 &&& (3 : Int32)) % (3 : Int32)))]) (rest := [(.ref b280), (.ref b280)]) (lenOf own_pd7 rfl) rfl (by show 2 * 0 + _ ≤ _; exact Nat.le_of_eq rfl) (hb hby at_85) (fun _ _ => ⟨rfl, e280, (by decide : 1 + 6 ≤ _), (by decide : 2 + 12 ≤ _)⟩)
    dsimp only [Pt.U, Pt.locs, Pt.cells, Pt.slots] at XC283 l283 y283 z283 st283 hQ283 hSC283 hgC283 CR283
    subst l283 y283 z283
    obtain ⟨X283, hS, hZ, hown⟩ := rebS hS (n1 := T280.heap.size) (by rw [e280]; exact hk) XC283 hSC283 hgC283 hZ hown
    obtain ⟨r_283, rfl, N283q, i283_3, i283_4, i283_5⟩ := hQ283
    have N283 := Fr.app N0 N283q
    have ne_b280_r_283 : b280 ≠ r_283 := Nat.ne_of_lt (Nat.lt_of_lt_of_le A280.lt i283_4)
    have gg_r_283 : n0 ≤ r_283 := Nat.le_trans (Nat.le_trans Z0 K280.1) i283_4
    have sz_r_283 : h0.size ≤ r_283 := Nat.le_trans K280.1 i283_4
    have sf283_b280 := CHr.safe CR283 A280.lt sf280_b280
    have CH283 := CH280.trans CR283
    have hk := Nat.le_refl T283.heap.size
    have K283 := K280.trans i283_3 all0
    have Q284 := (own_staKeep Q281 i283_3 all0)
    have pre285 : ∀ t, Steps p.tables e below (T283.setTop (mkF m 91 #[.val (.int p0), .val (.int p1), .val (.int e2), .val (.int k2), .val (.int p4), .val (.int ((p4 &&& (3 : Int32)) % (3 : Int32))), .val (.int ((((p4.toUInt32 >>> ((2 : Int32) &&& 31).toUInt32).toInt32) &&& (3 : Int32)) % (3 : Int32))), .val (.int l7), .val (.int l8), .val (.int (((p4.toUInt32 >>> ((10 : Int32) &&& 31).toUInt32).toInt32) &&& (3 : Int32))), .unset, .unset, .unset] [(.int ((((p4.toUInt32 >>> ((2 : Int32) &&& 31).toUInt32).toInt32) &&& (3 : Int32)) % (3 : Int32))), (.int p1), (.ref r_283), (.ref b280), (.ref b280)])) t → Steps p.tables e below (s₁.setTop (entryFrame m #[(.int p0), (.int p1), (.int p2), (.int p3), (.int p4)] maxLocals)) t := fun t k => by
      refine pre282 _ ?_
      show Steps p.tables e below (T280.setTop (mkF m 85 #[.val (.int p0), .val (.int p1), .val (.int e2), .val (.int k2), .val (.int p4), .val (.int ((p4 &&& (3 : Int32)) % (3 : Int32))), .val (.int ((((p4.toUInt32 >>> ((2 : Int32) &&& 31).toUInt32).toInt32) &&& (3 : Int32)) % (3 : Int32))), .val (.int l7), .val (.int l8), .val (.int (((p4.toUInt32 >>> ((10 : Int32) &&& 31).toUInt32).toInt32) &&& (3 : Int32))), .unset, .unset, .unset] [(.int ((p4 &&& (3 : Int32)) % (3 : Int32))), (.int p0), (.ref b280), (.ref b280)])) _
      refine st283.trans ?_
      show Steps p.tables e below (T283.setTop (mkF m 88 #[.val (.int p0), .val (.int p1), .val (.int e2), .val (.int k2), .val (.int p4), .val (.int ((p4 &&& (3 : Int32)) % (3 : Int32))), .val (.int ((((p4.toUInt32 >>> ((2 : Int32) &&& 31).toUInt32).toInt32) &&& (3 : Int32)) % (3 : Int32))), .val (.int l7), .val (.int l8), .val (.int (((p4.toUInt32 >>> ((10 : Int32) &&& 31).toUInt32).toInt32) &&& (3 : Int32))), .unset, .unset, .unset] [(.ref r_283), (.ref b280), (.ref b280)])) _
      refine XS.iloadN X283.here hx rfl (hb hby at_88) rfl ?_
      show Steps p.tables e below (T283.setTop (mkF m 89 #[.val (.int p0), .val (.int p1), .val (.int e2), .val (.int k2), .val (.int p4), .val (.int ((p4 &&& (3 : Int32)) % (3 : Int32))), .val (.int ((((p4.toUInt32 >>> ((2 : Int32) &&& 31).toUInt32).toInt32) &&& (3 : Int32)) % (3 : Int32))), .val (.int l7), .val (.int l8), .val (.int (((p4.toUInt32 >>> ((10 : Int32) &&& 31).toUInt32).toInt32) &&& (3 : Int32))), .unset, .unset, .unset] [(.int p1), (.ref r_283), (.ref b280), (.ref b280)])) _
      refine XS.iload X283.here hx rfl (hb hby at_89) rfl ?_
      exact k
    obtain ⟨_, _, ⟨T286, L286, k286, n286⟩, -, XC286, hSC286, hgC286, ⟨Lc286, hQ286, l286, y286, z286, CR286⟩, st286⟩ := callSS X283 hx (y := (⟨"com/example/postbag/postbag/broker/StoredBindingEqualsPinLaw", "mk", "(II)Ljava/lang/String;"⟩ : MethodName)) hown (mvT hZ (hw _ (List.mem_of_getElem? (i := 3) rfl))) (mvT hZ (hw _ (List.mem_of_getElem? (i := 4) rfl))) (mvT hZ (hw _ (List.mem_of_getElem? (i := 5) rfl))) (mvT hZ (hw _ (List.mem_of_getElem? (i := 6) rfl))) (by decide) (backOfSH (W := 3) (rmM l Z a0 hw [] p1 ((((p4.toUInt32 >>> ((2 : Int32) &&& 31).toUInt32).toInt32) &&& (3 : Int32)) % (3 : Int32)) cw T283.heap n0 (Nat.le_trans Z0 K283.1) Q284 hw0) hZ (hw _ (List.mem_of_getElem? (i := 6) rfl)) (hw _ (List.mem_of_getElem? (i := 5) rfl)) (by decide) (by decide) hEL CH283.1) (g := (mkF m 91 #[.val (.int p0), .val (.int p1), .val (.int e2), .val (.int k2), .val (.int p4), .val (.int ((p4 &&& (3 : Int32)) % (3 : Int32))), .val (.int ((((p4.toUInt32 >>> ((2 : Int32) &&& 31).toUInt32).toInt32) &&& (3 : Int32)) % (3 : Int32))), .val (.int l7), .val (.int l8), .val (.int (((p4.toUInt32 >>> ((10 : Int32) &&& 31).toUInt32).toInt32) &&& (3 : Int32))), .unset, .unset, .unset] [(.int ((((p4.toUInt32 >>> ((2 : Int32) &&& 31).toUInt32).toInt32) &&& (3 : Int32)) % (3 : Int32))), (.int p1), (.ref r_283), (.ref b280), (.ref b280)])) rfl (by rw [hml]; rfl) (argsL := [(.int p1), (.int ((((p4.toUInt32 >>> ((2 : Int32) &&& 31).toUInt32).toInt32) &&& (3 : Int32)) % (3 : Int32)))]) (rest := [(.ref r_283), (.ref b280), (.ref b280)]) (lenOf own_pd7 rfl) rfl (by show 2 * 0 + _ ≤ _; exact Nat.le_of_eq rfl) (hb hby at_91) (fun _ _ => ⟨rfl, rfl, (by decide : 7 + 6 ≤ _), (by decide : 14 + 12 ≤ _)⟩)
    dsimp only [Pt.U, Pt.locs, Pt.cells, Pt.slots] at XC286 l286 y286 z286 st286 hQ286 hSC286 hgC286 CR286
    subst l286 y286 z286
    obtain ⟨X286, hS, hZ, hown⟩ := rebS hS (n1 := T283.heap.size) hk XC286 hSC286 hgC286 hZ hown
    obtain ⟨r_286, rfl, N286q, i286_3, i286_4, i286_5⟩ := hQ286
    have N286 := Fr.app N283 N286q
    have Q287 := (A280.keep i283_3)
    have ne_b280_r_286 : b280 ≠ r_286 := Nat.ne_of_lt (Nat.lt_of_lt_of_le Q287.lt i286_4)
    have ne_r_283_r_286 : r_283 ≠ r_286 := Nat.ne_of_lt (Nat.lt_of_lt_of_le i283_5.lt i286_4)
    have gg_r_286 : n0 ≤ r_286 := Nat.le_trans (Nat.le_trans Z0 K283.1) i286_4
    have sz_r_286 : h0.size ≤ r_286 := Nat.le_trans K283.1 i286_4
    have sf286_b280 := CHr.safe CR286 Q287.lt sf283_b280
    have CH286 := CH283.trans CR286
    have hk := Nat.le_refl T286.heap.size
    have K286 := K283.trans i286_3 all0
    have Q288 := (Q287.keep i286_3)
    have Q289 := ((F280_exchange.keep i283_3 nin0).keep i286_3 nin0)
    have Q290 := ((F280_bindingKey.keep i283_3 nin0).keep i286_3 nin0)
    obtain ⟨_, _, ⟨T291, L291, k291, n291⟩, -, X291, ⟨Lc291, hQ291, l291, y291, z291⟩, st291⟩ := X286.specialBack hx (y := (⟨"com/example/postbag/postbag/broker/StoredBinding", "<init>", "(Ljava/lang/String;Ljava/lang/String;)V"⟩ : MethodName)) rfl hown (mvT hZ (hw _ (List.mem_of_getElem? (i := 29) rfl))) (mvT hZ (hw _ (List.mem_of_getElem? (i := 30) rfl))) (mvT hZ (hw _ (List.mem_of_getElem? (i := 31) rfl))) (by decide) (backOf (W := 1) (rmB l Z a0 hw [] b280 r_283 r_286 T286.heap n0 (Nat.le_trans Z0 K286.1) Q288 Q289 Q290 gg_b280) hZ (hw _ (List.mem_of_getElem? (i := 31) rfl)) (hw _ (List.mem_of_getElem? (i := 2) rfl)) (by decide) (by decide)) (g := (mkF m 94 #[.val (.int p0), .val (.int p1), .val (.int e2), .val (.int k2), .val (.int p4), .val (.int ((p4 &&& (3 : Int32)) % (3 : Int32))), .val (.int ((((p4.toUInt32 >>> ((2 : Int32) &&& 31).toUInt32).toInt32) &&& (3 : Int32)) % (3 : Int32))), .val (.int l7), .val (.int l8), .val (.int (((p4.toUInt32 >>> ((10 : Int32) &&& 31).toUInt32).toInt32) &&& (3 : Int32))), .unset, .unset, .unset] [(.ref r_286), (.ref r_283), (.ref b280), (.ref b280)])) rfl (by rw [hml]; rfl) (Steps.refl _) (a := b280) (argsL := [(.ref r_283), (.ref r_286)]) (rest := [(.ref b280)]) (lenOf own_pd8 rfl) rfl (by show 2 * 0 + _ ≤ _; exact Nat.le_of_eq rfl) (hb hby at_94) (fun _ _ => ⟨rfl, rfl, (by decide : 13 + 0 ≤ _), (by decide : 26 + 0 ≤ _)⟩)
    dsimp only [Pt.U, Pt.locs, Pt.cells, Pt.slots] at X291 l291 y291 z291 st291 hQ291
    subst l291 y291 z291
    obtain ⟨rfl, N291q, i291_2, i291_3, i291_4, i291_5⟩ := hQ291
    have N291 := Fr.app N286 N291q
    have sf291_b280 := Safe.keep i291_2 (sfS sf286_b280 sf0) CH286.1 sf286_b280
    have CH291 := CH286.trans (CHr.keep i291_2 (sfS sf286_b280 sf0) CH286.1)
    have hk := Nat.le_trans hk i291_2.1
    have K291 := K286.trans i291_2 (allS (Or.inr sz_b280) all0)
    have pre292 : ∀ t, Steps p.tables e below (T291.setTop (mkF m 101 #[.val (.int p0), .val (.int p1), .val (.int e2), .val (.int k2), .val (.int p4), .val (.int ((p4 &&& (3 : Int32)) % (3 : Int32))), .val (.int ((((p4.toUInt32 >>> ((2 : Int32) &&& 31).toUInt32).toInt32) &&& (3 : Int32)) % (3 : Int32))), .val (.int l7), .val (.int l8), .val (.int (((p4.toUInt32 >>> ((10 : Int32) &&& 31).toUInt32).toInt32) &&& (3 : Int32))), .val (.ref b280), .unset, .unset] [(.int (((p4.toUInt32 >>> ((10 : Int32) &&& 31).toUInt32).toInt32) &&& (3 : Int32)))])) t → Steps p.tables e below (s₁.setTop (entryFrame m #[(.int p0), (.int p1), (.int p2), (.int p3), (.int p4)] maxLocals)) t := fun t k => by
      refine pre285 _ ?_
      show Steps p.tables e below (T283.setTop (mkF m 91 #[.val (.int p0), .val (.int p1), .val (.int e2), .val (.int k2), .val (.int p4), .val (.int ((p4 &&& (3 : Int32)) % (3 : Int32))), .val (.int ((((p4.toUInt32 >>> ((2 : Int32) &&& 31).toUInt32).toInt32) &&& (3 : Int32)) % (3 : Int32))), .val (.int l7), .val (.int l8), .val (.int (((p4.toUInt32 >>> ((10 : Int32) &&& 31).toUInt32).toInt32) &&& (3 : Int32))), .unset, .unset, .unset] [(.int ((((p4.toUInt32 >>> ((2 : Int32) &&& 31).toUInt32).toInt32) &&& (3 : Int32)) % (3 : Int32))), (.int p1), (.ref r_283), (.ref b280), (.ref b280)])) _
      refine st286.trans ?_
      show Steps p.tables e below (T286.setTop (mkF m 94 #[.val (.int p0), .val (.int p1), .val (.int e2), .val (.int k2), .val (.int p4), .val (.int ((p4 &&& (3 : Int32)) % (3 : Int32))), .val (.int ((((p4.toUInt32 >>> ((2 : Int32) &&& 31).toUInt32).toInt32) &&& (3 : Int32)) % (3 : Int32))), .val (.int l7), .val (.int l8), .val (.int (((p4.toUInt32 >>> ((10 : Int32) &&& 31).toUInt32).toInt32) &&& (3 : Int32))), .unset, .unset, .unset] [(.ref r_286), (.ref r_283), (.ref b280), (.ref b280)])) _
      refine st291.trans ?_
      show Steps p.tables e below (T291.setTop (mkF m 97 #[.val (.int p0), .val (.int p1), .val (.int e2), .val (.int k2), .val (.int p4), .val (.int ((p4 &&& (3 : Int32)) % (3 : Int32))), .val (.int ((((p4.toUInt32 >>> ((2 : Int32) &&& 31).toUInt32).toInt32) &&& (3 : Int32)) % (3 : Int32))), .val (.int l7), .val (.int l8), .val (.int (((p4.toUInt32 >>> ((10 : Int32) &&& 31).toUInt32).toInt32) &&& (3 : Int32))), .unset, .unset, .unset] [(.ref b280)])) _
      refine XS.astore X291.here hx rfl (hb hby at_97) rfl rfl (l' := #[.val (.int p0), .val (.int p1), .val (.int e2), .val (.int k2), .val (.int p4), .val (.int ((p4 &&& (3 : Int32)) % (3 : Int32))), .val (.int ((((p4.toUInt32 >>> ((2 : Int32) &&& 31).toUInt32).toInt32) &&& (3 : Int32)) % (3 : Int32))), .val (.int l7), .val (.int l8), .val (.int (((p4.toUInt32 >>> ((10 : Int32) &&& 31).toUInt32).toInt32) &&& (3 : Int32))), .val (.ref b280), .unset, .unset]) rfl ?_
      show Steps p.tables e below (T291.setTop (mkF m 99 #[.val (.int p0), .val (.int p1), .val (.int e2), .val (.int k2), .val (.int p4), .val (.int ((p4 &&& (3 : Int32)) % (3 : Int32))), .val (.int ((((p4.toUInt32 >>> ((2 : Int32) &&& 31).toUInt32).toInt32) &&& (3 : Int32)) % (3 : Int32))), .val (.int l7), .val (.int l8), .val (.int (((p4.toUInt32 >>> ((10 : Int32) &&& 31).toUInt32).toInt32) &&& (3 : Int32))), .val (.ref b280), .unset, .unset] [])) _
      refine XS.iload X291.here hx rfl (hb hby at_99) rfl ?_
      exact k
    by_cases hc101 : (((p4.toUInt32 >>> ((10 : Int32) &&& 31).toUInt32).toInt32) &&& (3 : Int32)) = (0 : Int32)
    · obtain ⟨T293, h293, X293, e293, E293, A293, D293, -, st293⟩ := newO X291 hx hZ hown (hw _ (List.mem_of_getElem? (i := 0) rfl)) (hw _ (List.mem_of_getElem? (i := 1) rfl)) (hw _ (List.mem_of_getElem? (i := 2) rfl)) rfl (g := (mkF m 104 #[.val (.int p0), .val (.int p1), .val (.int e2), .val (.int k2), .val (.int p4), .val (.int ((p4 &&& (3 : Int32)) % (3 : Int32))), .val (.int ((((p4.toUInt32 >>> ((2 : Int32) &&& 31).toUInt32).toInt32) &&& (3 : Int32)) % (3 : Int32))), .val (.int l7), .val (.int l8), .val (.int (((p4.toUInt32 >>> ((10 : Int32) &&& 31).toUInt32).toInt32) &&& (3 : Int32))), .val (.ref b280), .unset, .unset] [])) rfl (hb hby at_104) (by decide) (by decide)
      obtain ⟨b293, g293⟩ : ∃ z, z = T291.heap.size := ⟨_, rfl⟩
      rw [← g293] at A293 D293 st293
      have ne_b280_b293 : b280 ≠ b293 := Nat.ne_of_lt (Nat.lt_of_lt_of_le i291_3.lt (Nat.le_of_eq g293.symm))
      have Q294 := ((i283_5.keep0 i286_3).keep1 i291_2 Q288 (hw _ (List.mem_of_getElem? (i := 1) rfl)) (by decide))
      have ne_r_283_b293 : r_283 ≠ b293 := Nat.ne_of_lt (Nat.lt_of_lt_of_le Q294.lt (Nat.le_of_eq g293.symm))
      have Q295 := (i286_5.keep1 i291_2 Q288 (hw _ (List.mem_of_getElem? (i := 1) rfl)) (by decide))
      have ne_r_286_b293 : r_286 ≠ b293 := Nat.ne_of_lt (Nat.lt_of_lt_of_le Q295.lt (Nat.le_of_eq g293.symm))
      have gg_b293 : n0 ≤ b293 := Nat.le_trans (Nat.le_trans Z0 K291.1) (Nat.le_of_eq g293.symm)
      have sz_b293 : h0.size ≤ b293 := Nat.le_trans K291.1 (Nat.le_of_eq g293.symm)
      have K293 := K291.ext E293
      have sf293_b293 := Safe.ext E293 CH291.1 (Safe.new (Nat.le_of_eq g293.symm) : Safe Z own_EL _ _ b293)
      have sf293_b280 := Safe.ext E293 CH291.1 sf291_b280
      have CH293 := CH291.trans (CHr.ext E293 CH291.1)
      have hk := Nat.le_trans hk E293.1
      have F293_exchange : Fld Z h293 b293 "com/example/postbag/postbag/broker/StoredBinding" "exchange" "Ljava/lang/String;" .null := D293 (Or.inr (hw _ (List.mem_of_getElem? (i := 34) rfl))) (ty := (.object "java/lang/String")) (by decide)
      have F293_bindingKey : Fld Z h293 b293 "com/example/postbag/postbag/broker/StoredBinding" "bindingKey" "Ljava/lang/String;" .null := D293 (Or.inr (hw _ (List.mem_of_getElem? (i := 36) rfl))) (ty := (.object "java/lang/String")) (by decide)
      have Q296 := ((own_staKeep (own_staKeep Q284 i286_3 all0) i291_2 (allS (own_exaPlain Q288) all0)).ext E293)
      have pre297 : ∀ t, Steps p.tables e below (T293.setTop (mkF m 111 #[.val (.int p0), .val (.int p1), .val (.int e2), .val (.int k2), .val (.int p4), .val (.int ((p4 &&& (3 : Int32)) % (3 : Int32))), .val (.int ((((p4.toUInt32 >>> ((2 : Int32) &&& 31).toUInt32).toInt32) &&& (3 : Int32)) % (3 : Int32))), .val (.int l7), .val (.int l8), .val (.int (((p4.toUInt32 >>> ((10 : Int32) &&& 31).toUInt32).toInt32) &&& (3 : Int32))), .val (.ref b280), .unset, .unset] [(.int l7), (.int e2), (.ref b293), (.ref b293)])) t → Steps p.tables e below (s₁.setTop (entryFrame m #[(.int p0), (.int p1), (.int p2), (.int p3), (.int p4)] maxLocals)) t := fun t k => by
        refine pre292 _ ?_
        show Steps p.tables e below (T291.setTop (mkF m 101 #[.val (.int p0), .val (.int p1), .val (.int e2), .val (.int k2), .val (.int p4), .val (.int ((p4 &&& (3 : Int32)) % (3 : Int32))), .val (.int ((((p4.toUInt32 >>> ((2 : Int32) &&& 31).toUInt32).toInt32) &&& (3 : Int32)) % (3 : Int32))), .val (.int l7), .val (.int l8), .val (.int (((p4.toUInt32 >>> ((10 : Int32) &&& 31).toUInt32).toInt32) &&& (3 : Int32))), .val (.ref b280), .unset, .unset] [(.int (((p4.toUInt32 >>> ((10 : Int32) &&& 31).toUInt32).toInt32) &&& (3 : Int32)))])) _
        refine XS.ifNo X291.here hx rfl (hb hby at_101) rfl ((if0 _ _).trans (teq hc101).2) ?_
        show Steps p.tables e below (T291.setTop (mkF m 104 #[.val (.int p0), .val (.int p1), .val (.int e2), .val (.int k2), .val (.int p4), .val (.int ((p4 &&& (3 : Int32)) % (3 : Int32))), .val (.int ((((p4.toUInt32 >>> ((2 : Int32) &&& 31).toUInt32).toInt32) &&& (3 : Int32)) % (3 : Int32))), .val (.int l7), .val (.int l8), .val (.int (((p4.toUInt32 >>> ((10 : Int32) &&& 31).toUInt32).toInt32) &&& (3 : Int32))), .val (.ref b280), .unset, .unset] [])) _
        refine st293 _ ?_
        show Steps p.tables e below (T293.setTop (mkF m 107 #[.val (.int p0), .val (.int p1), .val (.int e2), .val (.int k2), .val (.int p4), .val (.int ((p4 &&& (3 : Int32)) % (3 : Int32))), .val (.int ((((p4.toUInt32 >>> ((2 : Int32) &&& 31).toUInt32).toInt32) &&& (3 : Int32)) % (3 : Int32))), .val (.int l7), .val (.int l8), .val (.int (((p4.toUInt32 >>> ((10 : Int32) &&& 31).toUInt32).toInt32) &&& (3 : Int32))), .val (.ref b280), .unset, .unset] [(.ref b293)])) _
        refine XS.dup X293.here hx rfl (hb hby at_107) rfl rfl ?_
        show Steps p.tables e below (T293.setTop (mkF m 108 #[.val (.int p0), .val (.int p1), .val (.int e2), .val (.int k2), .val (.int p4), .val (.int ((p4 &&& (3 : Int32)) % (3 : Int32))), .val (.int ((((p4.toUInt32 >>> ((2 : Int32) &&& 31).toUInt32).toInt32) &&& (3 : Int32)) % (3 : Int32))), .val (.int l7), .val (.int l8), .val (.int (((p4.toUInt32 >>> ((10 : Int32) &&& 31).toUInt32).toInt32) &&& (3 : Int32))), .val (.ref b280), .unset, .unset] [(.ref b293), (.ref b293)])) _
        refine XS.iloadN X293.here hx rfl (hb hby at_108) rfl ?_
        show Steps p.tables e below (T293.setTop (mkF m 109 #[.val (.int p0), .val (.int p1), .val (.int e2), .val (.int k2), .val (.int p4), .val (.int ((p4 &&& (3 : Int32)) % (3 : Int32))), .val (.int ((((p4.toUInt32 >>> ((2 : Int32) &&& 31).toUInt32).toInt32) &&& (3 : Int32)) % (3 : Int32))), .val (.int l7), .val (.int l8), .val (.int (((p4.toUInt32 >>> ((10 : Int32) &&& 31).toUInt32).toInt32) &&& (3 : Int32))), .val (.ref b280), .unset, .unset] [(.int e2), (.ref b293), (.ref b293)])) _
        refine XS.iload X293.here hx rfl (hb hby at_109) rfl ?_
        exact k
      obtain ⟨_, _, ⟨T298, L298, k298, n298⟩, -, XC298, hSC298, hgC298, ⟨Lc298, hQ298, l298, y298, z298, CR298⟩, st298⟩ := callSS X293 hx (y := (⟨"com/example/postbag/postbag/broker/StoredBindingEqualsPinLaw", "mk", "(II)Ljava/lang/String;"⟩ : MethodName)) hown (mvT hZ (hw _ (List.mem_of_getElem? (i := 3) rfl))) (mvT hZ (hw _ (List.mem_of_getElem? (i := 4) rfl))) (mvT hZ (hw _ (List.mem_of_getElem? (i := 5) rfl))) (mvT hZ (hw _ (List.mem_of_getElem? (i := 6) rfl))) (by decide) (backOfSH (W := 2) (rmM l Z a0 hw [] e2 l7 cw h293 n0 (Nat.le_trans Z0 K293.1) Q296 hw0) hZ (hw _ (List.mem_of_getElem? (i := 6) rfl)) (hw _ (List.mem_of_getElem? (i := 5) rfl)) (by decide) (by decide) hEL CH293.1) (g := (mkF m 111 #[.val (.int p0), .val (.int p1), .val (.int e2), .val (.int k2), .val (.int p4), .val (.int ((p4 &&& (3 : Int32)) % (3 : Int32))), .val (.int ((((p4.toUInt32 >>> ((2 : Int32) &&& 31).toUInt32).toInt32) &&& (3 : Int32)) % (3 : Int32))), .val (.int l7), .val (.int l8), .val (.int (((p4.toUInt32 >>> ((10 : Int32) &&& 31).toUInt32).toInt32) &&& (3 : Int32))), .val (.ref b280), .unset, .unset] [(.int l7), (.int e2), (.ref b293), (.ref b293)])) rfl (by rw [hml]; rfl) (argsL := [(.int e2), (.int l7)]) (rest := [(.ref b293), (.ref b293)]) (lenOf own_pd7 rfl) rfl (by show 2 * 0 + _ ≤ _; exact Nat.le_of_eq rfl) (hb hby at_111) (fun _ _ => ⟨rfl, e293, (by decide : 14 + 6 ≤ _), (by decide : 28 + 12 ≤ _)⟩)
      dsimp only [Pt.U, Pt.locs, Pt.cells, Pt.slots] at XC298 l298 y298 z298 st298 hQ298 hSC298 hgC298 CR298
      subst l298 y298 z298
      obtain ⟨X298, hS, hZ, hown⟩ := rebS hS (n1 := T293.heap.size) (by rw [e293]; exact hk) XC298 hSC298 hgC298 hZ hown
      obtain ⟨r_298, rfl, N298q, i298_3, i298_4, i298_5⟩ := hQ298
      have N298 := Fr.app N291 N298q
      have Q299 := (i291_3.ext E293)
      have ne_b280_r_298 : b280 ≠ r_298 := Nat.ne_of_lt (Nat.lt_of_lt_of_le Q299.lt i298_4)
      have Q300 := (Q294.ext E293)
      have ne_r_283_r_298 : r_283 ≠ r_298 := Nat.ne_of_lt (Nat.lt_of_lt_of_le Q300.lt i298_4)
      have Q301 := (Q295.ext E293)
      have ne_r_286_r_298 : r_286 ≠ r_298 := Nat.ne_of_lt (Nat.lt_of_lt_of_le Q301.lt i298_4)
      have ne_b293_r_298 : b293 ≠ r_298 := Nat.ne_of_lt (Nat.lt_of_lt_of_le A293.lt i298_4)
      have gg_r_298 : n0 ≤ r_298 := Nat.le_trans (Nat.le_trans Z0 K293.1) i298_4
      have sz_r_298 : h0.size ≤ r_298 := Nat.le_trans K293.1 i298_4
      have sf298_b280 := CHr.safe CR298 Q299.lt sf293_b280
      have sf298_b293 := CHr.safe CR298 A293.lt sf293_b293
      have CH298 := CH293.trans CR298
      have hk := Nat.le_refl T298.heap.size
      have K298 := K293.trans i298_3 all0
      have Q302 := (own_staKeep Q296 i298_3 all0)
      have pre303 : ∀ t, Steps p.tables e below (T298.setTop (mkF m 117 #[.val (.int p0), .val (.int p1), .val (.int e2), .val (.int k2), .val (.int p4), .val (.int ((p4 &&& (3 : Int32)) % (3 : Int32))), .val (.int ((((p4.toUInt32 >>> ((2 : Int32) &&& 31).toUInt32).toInt32) &&& (3 : Int32)) % (3 : Int32))), .val (.int l7), .val (.int l8), .val (.int (((p4.toUInt32 >>> ((10 : Int32) &&& 31).toUInt32).toInt32) &&& (3 : Int32))), .val (.ref b280), .unset, .unset] [(.int l8), (.int k2), (.ref r_298), (.ref b293), (.ref b293)])) t → Steps p.tables e below (s₁.setTop (entryFrame m #[(.int p0), (.int p1), (.int p2), (.int p3), (.int p4)] maxLocals)) t := fun t k => by
        refine pre297 _ ?_
        show Steps p.tables e below (T293.setTop (mkF m 111 #[.val (.int p0), .val (.int p1), .val (.int e2), .val (.int k2), .val (.int p4), .val (.int ((p4 &&& (3 : Int32)) % (3 : Int32))), .val (.int ((((p4.toUInt32 >>> ((2 : Int32) &&& 31).toUInt32).toInt32) &&& (3 : Int32)) % (3 : Int32))), .val (.int l7), .val (.int l8), .val (.int (((p4.toUInt32 >>> ((10 : Int32) &&& 31).toUInt32).toInt32) &&& (3 : Int32))), .val (.ref b280), .unset, .unset] [(.int l7), (.int e2), (.ref b293), (.ref b293)])) _
        refine st298.trans ?_
        show Steps p.tables e below (T298.setTop (mkF m 114 #[.val (.int p0), .val (.int p1), .val (.int e2), .val (.int k2), .val (.int p4), .val (.int ((p4 &&& (3 : Int32)) % (3 : Int32))), .val (.int ((((p4.toUInt32 >>> ((2 : Int32) &&& 31).toUInt32).toInt32) &&& (3 : Int32)) % (3 : Int32))), .val (.int l7), .val (.int l8), .val (.int (((p4.toUInt32 >>> ((10 : Int32) &&& 31).toUInt32).toInt32) &&& (3 : Int32))), .val (.ref b280), .unset, .unset] [(.ref r_298), (.ref b293), (.ref b293)])) _
        refine XS.iloadN X298.here hx rfl (hb hby at_114) rfl ?_
        show Steps p.tables e below (T298.setTop (mkF m 115 #[.val (.int p0), .val (.int p1), .val (.int e2), .val (.int k2), .val (.int p4), .val (.int ((p4 &&& (3 : Int32)) % (3 : Int32))), .val (.int ((((p4.toUInt32 >>> ((2 : Int32) &&& 31).toUInt32).toInt32) &&& (3 : Int32)) % (3 : Int32))), .val (.int l7), .val (.int l8), .val (.int (((p4.toUInt32 >>> ((10 : Int32) &&& 31).toUInt32).toInt32) &&& (3 : Int32))), .val (.ref b280), .unset, .unset] [(.int k2), (.ref r_298), (.ref b293), (.ref b293)])) _
        refine XS.iload X298.here hx rfl (hb hby at_115) rfl ?_
        exact k
      obtain ⟨_, _, ⟨T304, L304, k304, n304⟩, -, XC304, hSC304, hgC304, ⟨Lc304, hQ304, l304, y304, z304, CR304⟩, st304⟩ := callSS X298 hx (y := (⟨"com/example/postbag/postbag/broker/StoredBindingEqualsPinLaw", "mk", "(II)Ljava/lang/String;"⟩ : MethodName)) hown (mvT hZ (hw _ (List.mem_of_getElem? (i := 3) rfl))) (mvT hZ (hw _ (List.mem_of_getElem? (i := 4) rfl))) (mvT hZ (hw _ (List.mem_of_getElem? (i := 5) rfl))) (mvT hZ (hw _ (List.mem_of_getElem? (i := 6) rfl))) (by decide) (backOfSH (W := 3) (rmM l Z a0 hw [] k2 l8 cw T298.heap n0 (Nat.le_trans Z0 K298.1) Q302 hw0) hZ (hw _ (List.mem_of_getElem? (i := 6) rfl)) (hw _ (List.mem_of_getElem? (i := 5) rfl)) (by decide) (by decide) hEL CH298.1) (g := (mkF m 117 #[.val (.int p0), .val (.int p1), .val (.int e2), .val (.int k2), .val (.int p4), .val (.int ((p4 &&& (3 : Int32)) % (3 : Int32))), .val (.int ((((p4.toUInt32 >>> ((2 : Int32) &&& 31).toUInt32).toInt32) &&& (3 : Int32)) % (3 : Int32))), .val (.int l7), .val (.int l8), .val (.int (((p4.toUInt32 >>> ((10 : Int32) &&& 31).toUInt32).toInt32) &&& (3 : Int32))), .val (.ref b280), .unset, .unset] [(.int l8), (.int k2), (.ref r_298), (.ref b293), (.ref b293)])) rfl (by rw [hml]; rfl) (argsL := [(.int k2), (.int l8)]) (rest := [(.ref r_298), (.ref b293), (.ref b293)]) (lenOf own_pd7 rfl) rfl (by show 2 * 0 + _ ≤ _; exact Nat.le_of_eq rfl) (hb hby at_117) (fun _ _ => ⟨rfl, rfl, (by decide : 20 + 6 ≤ _), (by decide : 40 + 12 ≤ _)⟩)
      dsimp only [Pt.U, Pt.locs, Pt.cells, Pt.slots] at XC304 l304 y304 z304 st304 hQ304 hSC304 hgC304 CR304
      subst l304 y304 z304
      obtain ⟨X304, hS, hZ, hown⟩ := rebS hS (n1 := T298.heap.size) hk XC304 hSC304 hgC304 hZ hown
      obtain ⟨r_304, rfl, N304q, i304_3, i304_4, i304_5⟩ := hQ304
      have N304 := Fr.app N298 N304q
      have Q305 := (Q299.keep i298_3)
      have ne_b280_r_304 : b280 ≠ r_304 := Nat.ne_of_lt (Nat.lt_of_lt_of_le Q305.lt i304_4)
      have Q306 := (Q300.keep0 i298_3)
      have ne_r_283_r_304 : r_283 ≠ r_304 := Nat.ne_of_lt (Nat.lt_of_lt_of_le Q306.lt i304_4)
      have Q307 := (Q301.keep0 i298_3)
      have ne_r_286_r_304 : r_286 ≠ r_304 := Nat.ne_of_lt (Nat.lt_of_lt_of_le Q307.lt i304_4)
      have Q308 := (A293.keep i298_3)
      have ne_b293_r_304 : b293 ≠ r_304 := Nat.ne_of_lt (Nat.lt_of_lt_of_le Q308.lt i304_4)
      have ne_r_298_r_304 : r_298 ≠ r_304 := Nat.ne_of_lt (Nat.lt_of_lt_of_le i298_5.lt i304_4)
      have gg_r_304 : n0 ≤ r_304 := Nat.le_trans (Nat.le_trans Z0 K298.1) i304_4
      have sz_r_304 : h0.size ≤ r_304 := Nat.le_trans K298.1 i304_4
      have sf304_b280 := CHr.safe CR304 Q305.lt sf298_b280
      have sf304_b293 := CHr.safe CR304 Q308.lt sf298_b293
      have CH304 := CH298.trans CR304
      have hk := Nat.le_refl T304.heap.size
      have K304 := K298.trans i304_3 all0
      have Q309 := (Q308.keep i304_3)
      have Q310 := ((F293_exchange.keep i298_3 nin0).keep i304_3 nin0)
      have Q311 := ((F293_bindingKey.keep i298_3 nin0).keep i304_3 nin0)
      obtain ⟨_, _, ⟨T312, L312, k312, n312⟩, -, X312, ⟨Lc312, hQ312, l312, y312, z312⟩, st312⟩ := X304.specialBack hx (y := (⟨"com/example/postbag/postbag/broker/StoredBinding", "<init>", "(Ljava/lang/String;Ljava/lang/String;)V"⟩ : MethodName)) rfl hown (mvT hZ (hw _ (List.mem_of_getElem? (i := 29) rfl))) (mvT hZ (hw _ (List.mem_of_getElem? (i := 30) rfl))) (mvT hZ (hw _ (List.mem_of_getElem? (i := 31) rfl))) (by decide) (backOf (W := 1) (rmB l Z a0 hw [] b293 r_298 r_304 T304.heap n0 (Nat.le_trans Z0 K304.1) Q309 Q310 Q311 gg_b293) hZ (hw _ (List.mem_of_getElem? (i := 31) rfl)) (hw _ (List.mem_of_getElem? (i := 2) rfl)) (by decide) (by decide)) (g := (mkF m 120 #[.val (.int p0), .val (.int p1), .val (.int e2), .val (.int k2), .val (.int p4), .val (.int ((p4 &&& (3 : Int32)) % (3 : Int32))), .val (.int ((((p4.toUInt32 >>> ((2 : Int32) &&& 31).toUInt32).toInt32) &&& (3 : Int32)) % (3 : Int32))), .val (.int l7), .val (.int l8), .val (.int (((p4.toUInt32 >>> ((10 : Int32) &&& 31).toUInt32).toInt32) &&& (3 : Int32))), .val (.ref b280), .unset, .unset] [(.ref r_304), (.ref r_298), (.ref b293), (.ref b293)])) rfl (by rw [hml]; rfl) (Steps.refl _) (a := b293) (argsL := [(.ref r_298), (.ref r_304)]) (rest := [(.ref b293)]) (lenOf own_pd8 rfl) rfl (by show 2 * 0 + _ ≤ _; exact Nat.le_of_eq rfl) (hb hby at_120) (fun _ _ => ⟨rfl, rfl, (by decide : 26 + 0 ≤ _), (by decide : 52 + 0 ≤ _)⟩)
      dsimp only [Pt.U, Pt.locs, Pt.cells, Pt.slots] at X312 l312 y312 z312 st312 hQ312
      subst l312 y312 z312
      obtain ⟨rfl, N312q, i312_2, i312_3, i312_4, i312_5⟩ := hQ312
      have N312 := Fr.app N304 N312q
      have sf312_b280 := Safe.keep i312_2 (sfS sf304_b293 sf0) CH304.1 sf304_b280
      have sf312_b293 := Safe.keep i312_2 (sfS sf304_b293 sf0) CH304.1 sf304_b293
      have CH312 := CH304.trans (CHr.keep i312_2 (sfS sf304_b293 sf0) CH304.1)
      have hk := Nat.le_trans hk i312_2.1
      have K312 := K304.trans i312_2 (allS (Or.inr sz_b293) all0)
      obtain ⟨_, _, ⟨T313, L313, k313, n313⟩, -, X313, ⟨Lc313, hQ313, l313, y313, z313⟩, st313⟩ := Jvm.LawKit.callS X312 hx (y := (⟨"com/example/postbag/postbag/broker/StoredBindingEqualsPinLaw", "same", "(IIII)Z"⟩ : MethodName)) hown (mvT hZ (hw _ (List.mem_of_getElem? (i := 37) rfl))) (mvT hZ (hw _ (List.mem_of_getElem? (i := 38) rfl))) (mvT hZ (hw _ (List.mem_of_getElem? (i := 5) rfl))) (mvT hZ (hw _ (List.mem_of_getElem? (i := 39) rfl))) (by decide) (backOf (W := 0) (rmS l Z a0 hw [] p0 ((p4 &&& (3 : Int32)) % (3 : Int32)) e2 l7 T312.heap n0 (Nat.le_trans Z0 K312.1) ) hZ (hw _ (List.mem_of_getElem? (i := 39) rfl)) (hw _ (List.mem_of_getElem? (i := 5) rfl)) (by decide) (by decide)) (g := (mkF m 131 #[.val (.int p0), .val (.int p1), .val (.int e2), .val (.int k2), .val (.int p4), .val (.int ((p4 &&& (3 : Int32)) % (3 : Int32))), .val (.int ((((p4.toUInt32 >>> ((2 : Int32) &&& 31).toUInt32).toInt32) &&& (3 : Int32)) % (3 : Int32))), .val (.int l7), .val (.int l8), .val (.int (((p4.toUInt32 >>> ((10 : Int32) &&& 31).toUInt32).toInt32) &&& (3 : Int32))), .val (.ref b280), .val (.ref b293), .unset] [(.int l7), (.int e2), (.int ((p4 &&& (3 : Int32)) % (3 : Int32))), (.int p0)])) rfl (by rw [hml]; rfl) (argsL := [(.int p0), (.int ((p4 &&& (3 : Int32)) % (3 : Int32))), (.int e2), (.int l7)]) (rest := []) (lenOf own_pd9 rfl) rfl (by show 2 * 0 + _ ≤ _; exact Nat.le_of_eq rfl) (hb hby at_131) (fun _ _ => ⟨rfl, rfl, (by decide : 26 + 0 ≤ _), (by decide : 52 + 0 ≤ _)⟩)
      dsimp only [Pt.U, Pt.locs, Pt.cells, Pt.slots] at X313 l313 y313 z313 st313 hQ313
      subst l313 y313 z313
      obtain ⟨rfl, N313q, e313⟩ := hQ313
      have N313 := Fr.app N312 N313q
      have pre314 : ∀ t, Steps p.tables e below (T313.setTop (mkF m 134 #[.val (.int p0), .val (.int p1), .val (.int e2), .val (.int k2), .val (.int p4), .val (.int ((p4 &&& (3 : Int32)) % (3 : Int32))), .val (.int ((((p4.toUInt32 >>> ((2 : Int32) &&& 31).toUInt32).toInt32) &&& (3 : Int32)) % (3 : Int32))), .val (.int l7), .val (.int l8), .val (.int (((p4.toUInt32 >>> ((10 : Int32) &&& 31).toUInt32).toInt32) &&& (3 : Int32))), .val (.ref b280), .val (.ref b293), .unset] [(.int (own_f_rmS p0 ((p4 &&& (3 : Int32)) % (3 : Int32)) e2 l7))])) t → Steps p.tables e below (s₁.setTop (entryFrame m #[(.int p0), (.int p1), (.int p2), (.int p3), (.int p4)] maxLocals)) t := fun t k => by
        refine pre303 _ ?_
        show Steps p.tables e below (T298.setTop (mkF m 117 #[.val (.int p0), .val (.int p1), .val (.int e2), .val (.int k2), .val (.int p4), .val (.int ((p4 &&& (3 : Int32)) % (3 : Int32))), .val (.int ((((p4.toUInt32 >>> ((2 : Int32) &&& 31).toUInt32).toInt32) &&& (3 : Int32)) % (3 : Int32))), .val (.int l7), .val (.int l8), .val (.int (((p4.toUInt32 >>> ((10 : Int32) &&& 31).toUInt32).toInt32) &&& (3 : Int32))), .val (.ref b280), .unset, .unset] [(.int l8), (.int k2), (.ref r_298), (.ref b293), (.ref b293)])) _
        refine st304.trans ?_
        show Steps p.tables e below (T304.setTop (mkF m 120 #[.val (.int p0), .val (.int p1), .val (.int e2), .val (.int k2), .val (.int p4), .val (.int ((p4 &&& (3 : Int32)) % (3 : Int32))), .val (.int ((((p4.toUInt32 >>> ((2 : Int32) &&& 31).toUInt32).toInt32) &&& (3 : Int32)) % (3 : Int32))), .val (.int l7), .val (.int l8), .val (.int (((p4.toUInt32 >>> ((10 : Int32) &&& 31).toUInt32).toInt32) &&& (3 : Int32))), .val (.ref b280), .unset, .unset] [(.ref r_304), (.ref r_298), (.ref b293), (.ref b293)])) _
        refine st312.trans ?_
        show Steps p.tables e below (T312.setTop (mkF m 123 #[.val (.int p0), .val (.int p1), .val (.int e2), .val (.int k2), .val (.int p4), .val (.int ((p4 &&& (3 : Int32)) % (3 : Int32))), .val (.int ((((p4.toUInt32 >>> ((2 : Int32) &&& 31).toUInt32).toInt32) &&& (3 : Int32)) % (3 : Int32))), .val (.int l7), .val (.int l8), .val (.int (((p4.toUInt32 >>> ((10 : Int32) &&& 31).toUInt32).toInt32) &&& (3 : Int32))), .val (.ref b280), .unset, .unset] [(.ref b293)])) _
        refine XS.astore X312.here hx rfl (hb hby at_123) rfl rfl (l' := #[.val (.int p0), .val (.int p1), .val (.int e2), .val (.int k2), .val (.int p4), .val (.int ((p4 &&& (3 : Int32)) % (3 : Int32))), .val (.int ((((p4.toUInt32 >>> ((2 : Int32) &&& 31).toUInt32).toInt32) &&& (3 : Int32)) % (3 : Int32))), .val (.int l7), .val (.int l8), .val (.int (((p4.toUInt32 >>> ((10 : Int32) &&& 31).toUInt32).toInt32) &&& (3 : Int32))), .val (.ref b280), .val (.ref b293), .unset]) rfl ?_
        show Steps p.tables e below (T312.setTop (mkF m 125 #[.val (.int p0), .val (.int p1), .val (.int e2), .val (.int k2), .val (.int p4), .val (.int ((p4 &&& (3 : Int32)) % (3 : Int32))), .val (.int ((((p4.toUInt32 >>> ((2 : Int32) &&& 31).toUInt32).toInt32) &&& (3 : Int32)) % (3 : Int32))), .val (.int l7), .val (.int l8), .val (.int (((p4.toUInt32 >>> ((10 : Int32) &&& 31).toUInt32).toInt32) &&& (3 : Int32))), .val (.ref b280), .val (.ref b293), .unset] [])) _
        refine XS.iloadN X312.here hx rfl (hb hby at_125) rfl ?_
        show Steps p.tables e below (T312.setTop (mkF m 126 #[.val (.int p0), .val (.int p1), .val (.int e2), .val (.int k2), .val (.int p4), .val (.int ((p4 &&& (3 : Int32)) % (3 : Int32))), .val (.int ((((p4.toUInt32 >>> ((2 : Int32) &&& 31).toUInt32).toInt32) &&& (3 : Int32)) % (3 : Int32))), .val (.int l7), .val (.int l8), .val (.int (((p4.toUInt32 >>> ((10 : Int32) &&& 31).toUInt32).toInt32) &&& (3 : Int32))), .val (.ref b280), .val (.ref b293), .unset] [(.int p0)])) _
        refine XS.iload X312.here hx rfl (hb hby at_126) rfl ?_
        show Steps p.tables e below (T312.setTop (mkF m 128 #[.val (.int p0), .val (.int p1), .val (.int e2), .val (.int k2), .val (.int p4), .val (.int ((p4 &&& (3 : Int32)) % (3 : Int32))), .val (.int ((((p4.toUInt32 >>> ((2 : Int32) &&& 31).toUInt32).toInt32) &&& (3 : Int32)) % (3 : Int32))), .val (.int l7), .val (.int l8), .val (.int (((p4.toUInt32 >>> ((10 : Int32) &&& 31).toUInt32).toInt32) &&& (3 : Int32))), .val (.ref b280), .val (.ref b293), .unset] [(.int ((p4 &&& (3 : Int32)) % (3 : Int32))), (.int p0)])) _
        refine XS.iloadN X312.here hx rfl (hb hby at_128) rfl ?_
        show Steps p.tables e below (T312.setTop (mkF m 129 #[.val (.int p0), .val (.int p1), .val (.int e2), .val (.int k2), .val (.int p4), .val (.int ((p4 &&& (3 : Int32)) % (3 : Int32))), .val (.int ((((p4.toUInt32 >>> ((2 : Int32) &&& 31).toUInt32).toInt32) &&& (3 : Int32)) % (3 : Int32))), .val (.int l7), .val (.int l8), .val (.int (((p4.toUInt32 >>> ((10 : Int32) &&& 31).toUInt32).toInt32) &&& (3 : Int32))), .val (.ref b280), .val (.ref b293), .unset] [(.int e2), (.int ((p4 &&& (3 : Int32)) % (3 : Int32))), (.int p0)])) _
        refine XS.iload X312.here hx rfl (hb hby at_129) rfl ?_
        show Steps p.tables e below (T312.setTop (mkF m 131 #[.val (.int p0), .val (.int p1), .val (.int e2), .val (.int k2), .val (.int p4), .val (.int ((p4 &&& (3 : Int32)) % (3 : Int32))), .val (.int ((((p4.toUInt32 >>> ((2 : Int32) &&& 31).toUInt32).toInt32) &&& (3 : Int32)) % (3 : Int32))), .val (.int l7), .val (.int l8), .val (.int (((p4.toUInt32 >>> ((10 : Int32) &&& 31).toUInt32).toInt32) &&& (3 : Int32))), .val (.ref b280), .val (.ref b293), .unset] [(.int l7), (.int e2), (.int ((p4 &&& (3 : Int32)) % (3 : Int32))), (.int p0)])) _
        refine st313 _ ?_
        exact k
      by_cases hc134 : (own_f_rmS p0 ((p4 &&& (3 : Int32)) % (3 : Int32)) e2 l7) = (0 : Int32)
      · have Q315 := ((((i291_4.ext E293).keep i298_3 nin0).keep i304_3 nin0).keep i312_2 (ninS ne_b280_b293 nin0))
        have Q316 := ((((i291_5.ext E293).keep i298_3 nin0).keep i304_3 nin0).keep i312_2 (ninS ne_b280_b293 nin0))
        have Q317 := ((Q306.keep0 i304_3).keep1 i312_2 Q309 (hw _ (List.mem_of_getElem? (i := 1) rfl)) (by decide))
        have Q318 := ((Q307.keep0 i304_3).keep1 i312_2 Q309 (hw _ (List.mem_of_getElem? (i := 1) rfl)) (by decide))
        have Q319 := ((i298_5.keep0 i304_3).keep1 i312_2 Q309 (hw _ (List.mem_of_getElem? (i := 1) rfl)) (by decide))
        have Q320 := (i304_5.keep1 i312_2 Q309 (hw _ (List.mem_of_getElem? (i := 1) rfl)) (by decide))
        have Q321 := (own_staKeep (own_staKeep Q302 i304_3 all0) i312_2 (allS (own_exaPlain Q309) all0))
        have Q323 := ((Q305.keep i304_3).keep i312_2)
        obtain ⟨cq322, kq322, q322a, q322b, q322c⟩ := isOf hZ e313 Q323
        obtain ⟨_, _, ⟨T322, L322, k322, n322⟩, -, X322, ⟨Lc322, hQ322, l322, y322, z322⟩, st322⟩ := X313.virtualBack hx (y := (⟨"com/example/postbag/postbag/broker/StoredBinding", "equals", "(Ljava/lang/Object;)Z"⟩ : MethodName)) (z := (⟨"com/example/postbag/postbag/broker/StoredBinding", "equals", "(Ljava/lang/Object;)Z"⟩ : MethodName)) hown (mvT hZ (hw _ (List.mem_of_getElem? (i := 40) rfl))) (mvT hZ (hw _ (List.mem_of_getElem? (i := 41) rfl))) (notFace_of_selects (args := #[]) (mvT hZ (hw _ (List.mem_of_getElem? (i := 43) rfl)))) (mvT hZ (hw _ (List.mem_of_getElem? (i := 43) rfl))) (mvT hZ (hw _ (List.mem_of_getElem? (i := 42) rfl))) (by decide) (backOf (W := 0) (rmBE_e l Z a0 hw [] b280 b293 cw r_283 r_286 r_298 r_304 (own_mk p0 ((p4 &&& (3 : Int32)) % (3 : Int32))) (own_mk p1 ((((p4.toUInt32 >>> ((2 : Int32) &&& 31).toUInt32).toInt32) &&& (3 : Int32)) % (3 : Int32))) (own_mk e2 l7) (own_mk k2 l8) T312.heap n0 (Nat.le_trans Z0 K312.1) i312_3 Q315 Q316 i312_4 i312_5 Q317 Q318 Q319 Q320 Q321 hw0 ne_r_283_r_298 ne_r_286_r_304 (own_mkLen _ _) (own_mkLen _ _) (own_mkLen _ _) (own_mkLen _ _)) hZ (hw _ (List.mem_of_getElem? (i := 44) rfl)) (hw _ (List.mem_of_getElem? (i := 2) rfl)) (by decide) (by decide)) q322a q322c (g := (mkF m 160 #[.val (.int p0), .val (.int p1), .val (.int e2), .val (.int k2), .val (.int p4), .val (.int ((p4 &&& (3 : Int32)) % (3 : Int32))), .val (.int ((((p4.toUInt32 >>> ((2 : Int32) &&& 31).toUInt32).toInt32) &&& (3 : Int32)) % (3 : Int32))), .val (.int l7), .val (.int l8), .val (.int (((p4.toUInt32 >>> ((10 : Int32) &&& 31).toUInt32).toInt32) &&& (3 : Int32))), .val (.ref b280), .val (.ref b293), .val (.int (0 : Int32))] [(.ref b293), (.ref b280)])) rfl (by rw [hml]; rfl) (Steps.refl _) (argsL := [(.ref b293)]) (rest := []) (lenOf own_pd6 rfl) rfl (by show 2 * 0 + _ ≤ _; exact Nat.le_of_eq rfl) (hb hby at_160) (fun _ _ => ⟨rfl, e313, (by decide : 26 + 0 ≤ _), (by decide : 52 + 0 ≤ _)⟩)
        dsimp only [Pt.U, Pt.locs, Pt.cells, Pt.slots] at X322 l322 y322 z322 st322 hQ322
        subst l322 y322 z322
        obtain ⟨rfl, N322q, e322⟩ := hQ322
        have N322 := Fr.app N313 N322q
        have hc165_324 : (own_f_rmBE_e (own_mk p0 ((p4 &&& (3 : Int32)) % (3 : Int32))) (own_mk p1 ((((p4.toUInt32 >>> ((2 : Int32) &&& 31).toUInt32).toInt32) &&& (3 : Int32)) % (3 : Int32))) (own_mk e2 l7) (own_mk k2 l8)) = (0 : Int32) := by unfold own_f_rmBE_e; rw [← own_same _ _ _ _ (own_l _) h7, ← own_same _ _ _ _ (own_l _) h8, if_pos hc134]
        obtain ⟨cq325, kq325, q325a, q325b, q325c⟩ := isOf hZ e322 i312_3
        obtain ⟨_, _, ⟨T325, L325, k325, n325⟩, -, X325, ⟨Lc325, hQ325, l325, y325, z325⟩, st325⟩ := X322.virtualBack hx (y := (⟨"com/example/postbag/postbag/broker/StoredBinding", "equals", "(Ljava/lang/Object;)Z"⟩ : MethodName)) (z := (⟨"com/example/postbag/postbag/broker/StoredBinding", "equals", "(Ljava/lang/Object;)Z"⟩ : MethodName)) hown (mvT hZ (hw _ (List.mem_of_getElem? (i := 40) rfl))) (mvT hZ (hw _ (List.mem_of_getElem? (i := 41) rfl))) (notFace_of_selects (args := #[]) (mvT hZ (hw _ (List.mem_of_getElem? (i := 43) rfl)))) (mvT hZ (hw _ (List.mem_of_getElem? (i := 43) rfl))) (mvT hZ (hw _ (List.mem_of_getElem? (i := 42) rfl))) (by decide) (backOf (W := 0) (rmBE_e l Z a0 hw [] b293 b280 cw r_298 r_304 r_283 r_286 (own_mk e2 l7) (own_mk k2 l8) (own_mk p0 ((p4 &&& (3 : Int32)) % (3 : Int32))) (own_mk p1 ((((p4.toUInt32 >>> ((2 : Int32) &&& 31).toUInt32).toInt32) &&& (3 : Int32)) % (3 : Int32))) T312.heap n0 (Nat.le_trans Z0 K312.1) Q323 i312_4 i312_5 Q315 Q316 Q319 Q320 Q317 Q318 Q321 hw0 (Ne.symm ne_r_283_r_298) (Ne.symm ne_r_286_r_304) (own_mkLen _ _) (own_mkLen _ _) (own_mkLen _ _) (own_mkLen _ _)) hZ (hw _ (List.mem_of_getElem? (i := 44) rfl)) (hw _ (List.mem_of_getElem? (i := 2) rfl)) (by decide) (by decide)) q325a q325c (g := (mkF m 172 #[.val (.int p0), .val (.int p1), .val (.int e2), .val (.int k2), .val (.int p4), .val (.int ((p4 &&& (3 : Int32)) % (3 : Int32))), .val (.int ((((p4.toUInt32 >>> ((2 : Int32) &&& 31).toUInt32).toInt32) &&& (3 : Int32)) % (3 : Int32))), .val (.int l7), .val (.int l8), .val (.int (((p4.toUInt32 >>> ((10 : Int32) &&& 31).toUInt32).toInt32) &&& (3 : Int32))), .val (.ref b280), .val (.ref b293), .val (.int (0 : Int32))] [(.ref b280), (.ref b293)])) rfl (by rw [hml]; rfl) (Steps.refl _) (argsL := [(.ref b280)]) (rest := []) (lenOf own_pd6 rfl) rfl (by show 2 * 0 + _ ≤ _; exact Nat.le_of_eq rfl) (hb hby at_172) (fun _ _ => ⟨rfl, e322, (by decide : 26 + 0 ≤ _), (by decide : 52 + 0 ≤ _)⟩)
        dsimp only [Pt.U, Pt.locs, Pt.cells, Pt.slots] at X325 l325 y325 z325 st325 hQ325
        subst l325 y325 z325
        obtain ⟨rfl, N325q, e325⟩ := hQ325
        have N325 := Fr.app N322 N325q
        have hc177_326 : (own_f_rmBE_e (own_mk e2 l7) (own_mk k2 l8) (own_mk p0 ((p4 &&& (3 : Int32)) % (3 : Int32))) (own_mk p1 ((((p4.toUInt32 >>> ((2 : Int32) &&& 31).toUInt32).toInt32) &&& (3 : Int32)) % (3 : Int32)))) = (0 : Int32) := by unfold own_f_rmBE_e; rw [own_eqLc, ← own_same _ _ _ _ (own_l _) h7, own_eqLc (own_mk k2 l8), ← own_same _ _ _ _ (own_l _) h8, if_pos hc134]
        obtain ⟨fs, hr, hrun, hended, hW, hsame⟩ := X325.leave (v := some (.int (1 : Int32))) (fun h => by rw [Bd.returns] at h; cases h)
        refine ⟨_, _, pre314 _ ?_, hrun, hended, _, _, rfl, ?_, (by show CHr Z own_EL s.vm s.heap T325.vm T325.heap; rw [hh, e325]; exact CH312.trans (CHv.at X325 hZ hEL CH312.1)), own_endW hS (by show _ ≤ T325.heap.size; rw [e325]; exact hk) hW (hsame.mono (by decide) (by decide))⟩
        · show Steps p.tables e below (T313.setTop (mkF m 134 #[.val (.int p0), .val (.int p1), .val (.int e2), .val (.int k2), .val (.int p4), .val (.int ((p4 &&& (3 : Int32)) % (3 : Int32))), .val (.int ((((p4.toUInt32 >>> ((2 : Int32) &&& 31).toUInt32).toInt32) &&& (3 : Int32)) % (3 : Int32))), .val (.int l7), .val (.int l8), .val (.int (((p4.toUInt32 >>> ((10 : Int32) &&& 31).toUInt32).toInt32) &&& (3 : Int32))), .val (.ref b280), .val (.ref b293), .unset] [(.int (own_f_rmS p0 ((p4 &&& (3 : Int32)) % (3 : Int32)) e2 l7))])) _
          refine XS.ifYes X313.here hx rfl (pc0 := 134) (pc' := 153) rfl (hb hby at_134) rfl ((if0 _ _).trans (teq hc134).1) (by decide) (by decide) ?_
          show Steps p.tables e below (T313.setTop (mkF m 153 #[.val (.int p0), .val (.int p1), .val (.int e2), .val (.int k2), .val (.int p4), .val (.int ((p4 &&& (3 : Int32)) % (3 : Int32))), .val (.int ((((p4.toUInt32 >>> ((2 : Int32) &&& 31).toUInt32).toInt32) &&& (3 : Int32)) % (3 : Int32))), .val (.int l7), .val (.int l8), .val (.int (((p4.toUInt32 >>> ((10 : Int32) &&& 31).toUInt32).toInt32) &&& (3 : Int32))), .val (.ref b280), .val (.ref b293), .unset] [])) _
          refine XS.iconst X313.here hx rfl (hb hby at_153) ?_
          show Steps p.tables e below (T313.setTop (mkF m 154 #[.val (.int p0), .val (.int p1), .val (.int e2), .val (.int k2), .val (.int p4), .val (.int ((p4 &&& (3 : Int32)) % (3 : Int32))), .val (.int ((((p4.toUInt32 >>> ((2 : Int32) &&& 31).toUInt32).toInt32) &&& (3 : Int32)) % (3 : Int32))), .val (.int l7), .val (.int l8), .val (.int (((p4.toUInt32 >>> ((10 : Int32) &&& 31).toUInt32).toInt32) &&& (3 : Int32))), .val (.ref b280), .val (.ref b293), .unset] [(.int (0 : Int32))])) _
          refine XS.istore X313.here hx rfl (hb hby at_154) rfl (l' := #[.val (.int p0), .val (.int p1), .val (.int e2), .val (.int k2), .val (.int p4), .val (.int ((p4 &&& (3 : Int32)) % (3 : Int32))), .val (.int ((((p4.toUInt32 >>> ((2 : Int32) &&& 31).toUInt32).toInt32) &&& (3 : Int32)) % (3 : Int32))), .val (.int l7), .val (.int l8), .val (.int (((p4.toUInt32 >>> ((10 : Int32) &&& 31).toUInt32).toInt32) &&& (3 : Int32))), .val (.ref b280), .val (.ref b293), .val (.int (0 : Int32))]) rfl ?_
          show Steps p.tables e below (T313.setTop (mkF m 156 #[.val (.int p0), .val (.int p1), .val (.int e2), .val (.int k2), .val (.int p4), .val (.int ((p4 &&& (3 : Int32)) % (3 : Int32))), .val (.int ((((p4.toUInt32 >>> ((2 : Int32) &&& 31).toUInt32).toInt32) &&& (3 : Int32)) % (3 : Int32))), .val (.int l7), .val (.int l8), .val (.int (((p4.toUInt32 >>> ((10 : Int32) &&& 31).toUInt32).toInt32) &&& (3 : Int32))), .val (.ref b280), .val (.ref b293), .val (.int (0 : Int32))] [])) _
          refine XS.aload X313.here hx rfl (hb hby at_156) rfl rfl ?_
          show Steps p.tables e below (T313.setTop (mkF m 158 #[.val (.int p0), .val (.int p1), .val (.int e2), .val (.int k2), .val (.int p4), .val (.int ((p4 &&& (3 : Int32)) % (3 : Int32))), .val (.int ((((p4.toUInt32 >>> ((2 : Int32) &&& 31).toUInt32).toInt32) &&& (3 : Int32)) % (3 : Int32))), .val (.int l7), .val (.int l8), .val (.int (((p4.toUInt32 >>> ((10 : Int32) &&& 31).toUInt32).toInt32) &&& (3 : Int32))), .val (.ref b280), .val (.ref b293), .val (.int (0 : Int32))] [(.ref b280)])) _
          refine XS.aload X313.here hx rfl (hb hby at_158) rfl rfl ?_
          show Steps p.tables e below (T313.setTop (mkF m 160 #[.val (.int p0), .val (.int p1), .val (.int e2), .val (.int k2), .val (.int p4), .val (.int ((p4 &&& (3 : Int32)) % (3 : Int32))), .val (.int ((((p4.toUInt32 >>> ((2 : Int32) &&& 31).toUInt32).toInt32) &&& (3 : Int32)) % (3 : Int32))), .val (.int l7), .val (.int l8), .val (.int (((p4.toUInt32 >>> ((10 : Int32) &&& 31).toUInt32).toInt32) &&& (3 : Int32))), .val (.ref b280), .val (.ref b293), .val (.int (0 : Int32))] [(.ref b293), (.ref b280)])) _
          refine st322.trans ?_
          show Steps p.tables e below (T322.setTop (mkF m 163 #[.val (.int p0), .val (.int p1), .val (.int e2), .val (.int k2), .val (.int p4), .val (.int ((p4 &&& (3 : Int32)) % (3 : Int32))), .val (.int ((((p4.toUInt32 >>> ((2 : Int32) &&& 31).toUInt32).toInt32) &&& (3 : Int32)) % (3 : Int32))), .val (.int l7), .val (.int l8), .val (.int (((p4.toUInt32 >>> ((10 : Int32) &&& 31).toUInt32).toInt32) &&& (3 : Int32))), .val (.ref b280), .val (.ref b293), .val (.int (0 : Int32))] [(.int (own_f_rmBE_e (own_mk p0 ((p4 &&& (3 : Int32)) % (3 : Int32))) (own_mk p1 ((((p4.toUInt32 >>> ((2 : Int32) &&& 31).toUInt32).toInt32) &&& (3 : Int32)) % (3 : Int32))) (own_mk e2 l7) (own_mk k2 l8)))])) _
          refine XS.iload X322.here hx rfl (hb hby at_163) rfl ?_
          show Steps p.tables e below (T322.setTop (mkF m 165 #[.val (.int p0), .val (.int p1), .val (.int e2), .val (.int k2), .val (.int p4), .val (.int ((p4 &&& (3 : Int32)) % (3 : Int32))), .val (.int ((((p4.toUInt32 >>> ((2 : Int32) &&& 31).toUInt32).toInt32) &&& (3 : Int32)) % (3 : Int32))), .val (.int l7), .val (.int l8), .val (.int (((p4.toUInt32 >>> ((10 : Int32) &&& 31).toUInt32).toInt32) &&& (3 : Int32))), .val (.ref b280), .val (.ref b293), .val (.int (0 : Int32))] [(.int (0 : Int32)), (.int (own_f_rmBE_e (own_mk p0 ((p4 &&& (3 : Int32)) % (3 : Int32))) (own_mk p1 ((((p4.toUInt32 >>> ((2 : Int32) &&& 31).toUInt32).toInt32) &&& (3 : Int32)) % (3 : Int32))) (own_mk e2 l7) (own_mk k2 l8)))])) _
          refine XS.icmpNo X322.here hx rfl (hb hby at_165) rfl (teq hc165_324).2 ?_
          show Steps p.tables e below (T322.setTop (mkF m 168 #[.val (.int p0), .val (.int p1), .val (.int e2), .val (.int k2), .val (.int p4), .val (.int ((p4 &&& (3 : Int32)) % (3 : Int32))), .val (.int ((((p4.toUInt32 >>> ((2 : Int32) &&& 31).toUInt32).toInt32) &&& (3 : Int32)) % (3 : Int32))), .val (.int l7), .val (.int l8), .val (.int (((p4.toUInt32 >>> ((10 : Int32) &&& 31).toUInt32).toInt32) &&& (3 : Int32))), .val (.ref b280), .val (.ref b293), .val (.int (0 : Int32))] [])) _
          refine XS.aload X322.here hx rfl (hb hby at_168) rfl rfl ?_
          show Steps p.tables e below (T322.setTop (mkF m 170 #[.val (.int p0), .val (.int p1), .val (.int e2), .val (.int k2), .val (.int p4), .val (.int ((p4 &&& (3 : Int32)) % (3 : Int32))), .val (.int ((((p4.toUInt32 >>> ((2 : Int32) &&& 31).toUInt32).toInt32) &&& (3 : Int32)) % (3 : Int32))), .val (.int l7), .val (.int l8), .val (.int (((p4.toUInt32 >>> ((10 : Int32) &&& 31).toUInt32).toInt32) &&& (3 : Int32))), .val (.ref b280), .val (.ref b293), .val (.int (0 : Int32))] [(.ref b293)])) _
          refine XS.aload X322.here hx rfl (hb hby at_170) rfl rfl ?_
          show Steps p.tables e below (T322.setTop (mkF m 172 #[.val (.int p0), .val (.int p1), .val (.int e2), .val (.int k2), .val (.int p4), .val (.int ((p4 &&& (3 : Int32)) % (3 : Int32))), .val (.int ((((p4.toUInt32 >>> ((2 : Int32) &&& 31).toUInt32).toInt32) &&& (3 : Int32)) % (3 : Int32))), .val (.int l7), .val (.int l8), .val (.int (((p4.toUInt32 >>> ((10 : Int32) &&& 31).toUInt32).toInt32) &&& (3 : Int32))), .val (.ref b280), .val (.ref b293), .val (.int (0 : Int32))] [(.ref b280), (.ref b293)])) _
          refine st325.trans ?_
          show Steps p.tables e below (T325.setTop (mkF m 175 #[.val (.int p0), .val (.int p1), .val (.int e2), .val (.int k2), .val (.int p4), .val (.int ((p4 &&& (3 : Int32)) % (3 : Int32))), .val (.int ((((p4.toUInt32 >>> ((2 : Int32) &&& 31).toUInt32).toInt32) &&& (3 : Int32)) % (3 : Int32))), .val (.int l7), .val (.int l8), .val (.int (((p4.toUInt32 >>> ((10 : Int32) &&& 31).toUInt32).toInt32) &&& (3 : Int32))), .val (.ref b280), .val (.ref b293), .val (.int (0 : Int32))] [(.int (own_f_rmBE_e (own_mk e2 l7) (own_mk k2 l8) (own_mk p0 ((p4 &&& (3 : Int32)) % (3 : Int32))) (own_mk p1 ((((p4.toUInt32 >>> ((2 : Int32) &&& 31).toUInt32).toInt32) &&& (3 : Int32)) % (3 : Int32)))))])) _
          refine XS.iload X325.here hx rfl (hb hby at_175) rfl ?_
          show Steps p.tables e below (T325.setTop (mkF m 177 #[.val (.int p0), .val (.int p1), .val (.int e2), .val (.int k2), .val (.int p4), .val (.int ((p4 &&& (3 : Int32)) % (3 : Int32))), .val (.int ((((p4.toUInt32 >>> ((2 : Int32) &&& 31).toUInt32).toInt32) &&& (3 : Int32)) % (3 : Int32))), .val (.int l7), .val (.int l8), .val (.int (((p4.toUInt32 >>> ((10 : Int32) &&& 31).toUInt32).toInt32) &&& (3 : Int32))), .val (.ref b280), .val (.ref b293), .val (.int (0 : Int32))] [(.int (0 : Int32)), (.int (own_f_rmBE_e (own_mk e2 l7) (own_mk k2 l8) (own_mk p0 ((p4 &&& (3 : Int32)) % (3 : Int32))) (own_mk p1 ((((p4.toUInt32 >>> ((2 : Int32) &&& 31).toUInt32).toInt32) &&& (3 : Int32)) % (3 : Int32)))))])) _
          refine XS.icmpNo X325.here hx rfl (hb hby at_177) rfl (teq hc177_326).2 ?_
          show Steps p.tables e below (T325.setTop (mkF m 180 #[.val (.int p0), .val (.int p1), .val (.int e2), .val (.int k2), .val (.int p4), .val (.int ((p4 &&& (3 : Int32)) % (3 : Int32))), .val (.int ((((p4.toUInt32 >>> ((2 : Int32) &&& 31).toUInt32).toInt32) &&& (3 : Int32)) % (3 : Int32))), .val (.int l7), .val (.int l8), .val (.int (((p4.toUInt32 >>> ((10 : Int32) &&& 31).toUInt32).toInt32) &&& (3 : Int32))), .val (.ref b280), .val (.ref b293), .val (.int (0 : Int32))] [])) _
          refine XS.iconst X325.here hx rfl (hb hby at_180) ?_
          show Steps p.tables e below (T325.setTop (mkF m 181 #[.val (.int p0), .val (.int p1), .val (.int e2), .val (.int k2), .val (.int p4), .val (.int ((p4 &&& (3 : Int32)) % (3 : Int32))), .val (.int ((((p4.toUInt32 >>> ((2 : Int32) &&& 31).toUInt32).toInt32) &&& (3 : Int32)) % (3 : Int32))), .val (.int l7), .val (.int l8), .val (.int (((p4.toUInt32 >>> ((10 : Int32) &&& 31).toUInt32).toInt32) &&& (3 : Int32))), .val (.ref b280), .val (.ref b293), .val (.int (0 : Int32))] [(.int (1 : Int32))])) _
          refine XS.goto X325.here hx rfl (pc0 := 181) (pc' := 185) rfl (hb hby at_181) (by decide) (by decide) ?_
          show Steps p.tables e below (T325.setTop (mkF m 185 #[.val (.int p0), .val (.int p1), .val (.int e2), .val (.int k2), .val (.int p4), .val (.int ((p4 &&& (3 : Int32)) % (3 : Int32))), .val (.int ((((p4.toUInt32 >>> ((2 : Int32) &&& 31).toUInt32).toInt32) &&& (3 : Int32)) % (3 : Int32))), .val (.int l7), .val (.int l8), .val (.int (((p4.toUInt32 >>> ((10 : Int32) &&& 31).toUInt32).toInt32) &&& (3 : Int32))), .val (.ref b280), .val (.ref b293), .val (.int (0 : Int32))] [(.int (1 : Int32))])) _
          exact retN X325 hx (t := .boolean) Bd.returns (by simp) (hb hby at_185) hr
        · show Q0 Z p0 p1 p2 p3 p4 cw h0 n0 _ T325.heap _
          rw [e325]
          exact ⟨rfl, N325⟩
      · obtain ⟨_, _, ⟨T327, L327, k327, n327⟩, -, X327, ⟨Lc327, hQ327, l327, y327, z327⟩, st327⟩ := Jvm.LawKit.callS X313 hx (y := (⟨"com/example/postbag/postbag/broker/StoredBindingEqualsPinLaw", "same", "(IIII)Z"⟩ : MethodName)) hown (mvT hZ (hw _ (List.mem_of_getElem? (i := 37) rfl))) (mvT hZ (hw _ (List.mem_of_getElem? (i := 38) rfl))) (mvT hZ (hw _ (List.mem_of_getElem? (i := 5) rfl))) (mvT hZ (hw _ (List.mem_of_getElem? (i := 39) rfl))) (by decide) (backOf (W := 0) (rmS l Z a0 hw [] p1 ((((p4.toUInt32 >>> ((2 : Int32) &&& 31).toUInt32).toInt32) &&& (3 : Int32)) % (3 : Int32)) k2 l8 T312.heap n0 (Nat.le_trans Z0 K312.1) ) hZ (hw _ (List.mem_of_getElem? (i := 39) rfl)) (hw _ (List.mem_of_getElem? (i := 5) rfl)) (by decide) (by decide)) (g := (mkF m 143 #[.val (.int p0), .val (.int p1), .val (.int e2), .val (.int k2), .val (.int p4), .val (.int ((p4 &&& (3 : Int32)) % (3 : Int32))), .val (.int ((((p4.toUInt32 >>> ((2 : Int32) &&& 31).toUInt32).toInt32) &&& (3 : Int32)) % (3 : Int32))), .val (.int l7), .val (.int l8), .val (.int (((p4.toUInt32 >>> ((10 : Int32) &&& 31).toUInt32).toInt32) &&& (3 : Int32))), .val (.ref b280), .val (.ref b293), .unset] [(.int l8), (.int k2), (.int ((((p4.toUInt32 >>> ((2 : Int32) &&& 31).toUInt32).toInt32) &&& (3 : Int32)) % (3 : Int32))), (.int p1)])) rfl (by rw [hml]; rfl) (argsL := [(.int p1), (.int ((((p4.toUInt32 >>> ((2 : Int32) &&& 31).toUInt32).toInt32) &&& (3 : Int32)) % (3 : Int32))), (.int k2), (.int l8)]) (rest := []) (lenOf own_pd9 rfl) rfl (by show 2 * 0 + _ ≤ _; exact Nat.le_of_eq rfl) (hb hby at_143) (fun _ _ => ⟨rfl, e313, (by decide : 26 + 0 ≤ _), (by decide : 52 + 0 ≤ _)⟩)
        dsimp only [Pt.U, Pt.locs, Pt.cells, Pt.slots] at X327 l327 y327 z327 st327 hQ327
        subst l327 y327 z327
        obtain ⟨rfl, N327q, e327⟩ := hQ327
        have N327 := Fr.app N313 N327q
        have pre328 : ∀ t, Steps p.tables e below (T327.setTop (mkF m 146 #[.val (.int p0), .val (.int p1), .val (.int e2), .val (.int k2), .val (.int p4), .val (.int ((p4 &&& (3 : Int32)) % (3 : Int32))), .val (.int ((((p4.toUInt32 >>> ((2 : Int32) &&& 31).toUInt32).toInt32) &&& (3 : Int32)) % (3 : Int32))), .val (.int l7), .val (.int l8), .val (.int (((p4.toUInt32 >>> ((10 : Int32) &&& 31).toUInt32).toInt32) &&& (3 : Int32))), .val (.ref b280), .val (.ref b293), .unset] [(.int (own_f_rmS p1 ((((p4.toUInt32 >>> ((2 : Int32) &&& 31).toUInt32).toInt32) &&& (3 : Int32)) % (3 : Int32)) k2 l8))])) t → Steps p.tables e below (s₁.setTop (entryFrame m #[(.int p0), (.int p1), (.int p2), (.int p3), (.int p4)] maxLocals)) t := fun t k => by
          refine pre314 _ ?_
          show Steps p.tables e below (T313.setTop (mkF m 134 #[.val (.int p0), .val (.int p1), .val (.int e2), .val (.int k2), .val (.int p4), .val (.int ((p4 &&& (3 : Int32)) % (3 : Int32))), .val (.int ((((p4.toUInt32 >>> ((2 : Int32) &&& 31).toUInt32).toInt32) &&& (3 : Int32)) % (3 : Int32))), .val (.int l7), .val (.int l8), .val (.int (((p4.toUInt32 >>> ((10 : Int32) &&& 31).toUInt32).toInt32) &&& (3 : Int32))), .val (.ref b280), .val (.ref b293), .unset] [(.int (own_f_rmS p0 ((p4 &&& (3 : Int32)) % (3 : Int32)) e2 l7))])) _
          refine XS.ifNo X313.here hx rfl (hb hby at_134) rfl ((if0 _ _).trans (feq hc134).1) ?_
          show Steps p.tables e below (T313.setTop (mkF m 137 #[.val (.int p0), .val (.int p1), .val (.int e2), .val (.int k2), .val (.int p4), .val (.int ((p4 &&& (3 : Int32)) % (3 : Int32))), .val (.int ((((p4.toUInt32 >>> ((2 : Int32) &&& 31).toUInt32).toInt32) &&& (3 : Int32)) % (3 : Int32))), .val (.int l7), .val (.int l8), .val (.int (((p4.toUInt32 >>> ((10 : Int32) &&& 31).toUInt32).toInt32) &&& (3 : Int32))), .val (.ref b280), .val (.ref b293), .unset] [])) _
          refine XS.iloadN X313.here hx rfl (hb hby at_137) rfl ?_
          show Steps p.tables e below (T313.setTop (mkF m 138 #[.val (.int p0), .val (.int p1), .val (.int e2), .val (.int k2), .val (.int p4), .val (.int ((p4 &&& (3 : Int32)) % (3 : Int32))), .val (.int ((((p4.toUInt32 >>> ((2 : Int32) &&& 31).toUInt32).toInt32) &&& (3 : Int32)) % (3 : Int32))), .val (.int l7), .val (.int l8), .val (.int (((p4.toUInt32 >>> ((10 : Int32) &&& 31).toUInt32).toInt32) &&& (3 : Int32))), .val (.ref b280), .val (.ref b293), .unset] [(.int p1)])) _
          refine XS.iload X313.here hx rfl (hb hby at_138) rfl ?_
          show Steps p.tables e below (T313.setTop (mkF m 140 #[.val (.int p0), .val (.int p1), .val (.int e2), .val (.int k2), .val (.int p4), .val (.int ((p4 &&& (3 : Int32)) % (3 : Int32))), .val (.int ((((p4.toUInt32 >>> ((2 : Int32) &&& 31).toUInt32).toInt32) &&& (3 : Int32)) % (3 : Int32))), .val (.int l7), .val (.int l8), .val (.int (((p4.toUInt32 >>> ((10 : Int32) &&& 31).toUInt32).toInt32) &&& (3 : Int32))), .val (.ref b280), .val (.ref b293), .unset] [(.int ((((p4.toUInt32 >>> ((2 : Int32) &&& 31).toUInt32).toInt32) &&& (3 : Int32)) % (3 : Int32))), (.int p1)])) _
          refine XS.iloadN X313.here hx rfl (hb hby at_140) rfl ?_
          show Steps p.tables e below (T313.setTop (mkF m 141 #[.val (.int p0), .val (.int p1), .val (.int e2), .val (.int k2), .val (.int p4), .val (.int ((p4 &&& (3 : Int32)) % (3 : Int32))), .val (.int ((((p4.toUInt32 >>> ((2 : Int32) &&& 31).toUInt32).toInt32) &&& (3 : Int32)) % (3 : Int32))), .val (.int l7), .val (.int l8), .val (.int (((p4.toUInt32 >>> ((10 : Int32) &&& 31).toUInt32).toInt32) &&& (3 : Int32))), .val (.ref b280), .val (.ref b293), .unset] [(.int k2), (.int ((((p4.toUInt32 >>> ((2 : Int32) &&& 31).toUInt32).toInt32) &&& (3 : Int32)) % (3 : Int32))), (.int p1)])) _
          refine XS.iload X313.here hx rfl (hb hby at_141) rfl ?_
          show Steps p.tables e below (T313.setTop (mkF m 143 #[.val (.int p0), .val (.int p1), .val (.int e2), .val (.int k2), .val (.int p4), .val (.int ((p4 &&& (3 : Int32)) % (3 : Int32))), .val (.int ((((p4.toUInt32 >>> ((2 : Int32) &&& 31).toUInt32).toInt32) &&& (3 : Int32)) % (3 : Int32))), .val (.int l7), .val (.int l8), .val (.int (((p4.toUInt32 >>> ((10 : Int32) &&& 31).toUInt32).toInt32) &&& (3 : Int32))), .val (.ref b280), .val (.ref b293), .unset] [(.int l8), (.int k2), (.int ((((p4.toUInt32 >>> ((2 : Int32) &&& 31).toUInt32).toInt32) &&& (3 : Int32)) % (3 : Int32))), (.int p1)])) _
          refine st327 _ ?_
          exact k
        by_cases hc146 : (own_f_rmS p1 ((((p4.toUInt32 >>> ((2 : Int32) &&& 31).toUInt32).toInt32) &&& (3 : Int32)) % (3 : Int32)) k2 l8) = (0 : Int32)
        · have Q329 := ((((i291_4.ext E293).keep i298_3 nin0).keep i304_3 nin0).keep i312_2 (ninS ne_b280_b293 nin0))
          have Q330 := ((((i291_5.ext E293).keep i298_3 nin0).keep i304_3 nin0).keep i312_2 (ninS ne_b280_b293 nin0))
          have Q331 := ((Q306.keep0 i304_3).keep1 i312_2 Q309 (hw _ (List.mem_of_getElem? (i := 1) rfl)) (by decide))
          have Q332 := ((Q307.keep0 i304_3).keep1 i312_2 Q309 (hw _ (List.mem_of_getElem? (i := 1) rfl)) (by decide))
          have Q333 := ((i298_5.keep0 i304_3).keep1 i312_2 Q309 (hw _ (List.mem_of_getElem? (i := 1) rfl)) (by decide))
          have Q334 := (i304_5.keep1 i312_2 Q309 (hw _ (List.mem_of_getElem? (i := 1) rfl)) (by decide))
          have Q335 := (own_staKeep (own_staKeep Q302 i304_3 all0) i312_2 (allS (own_exaPlain Q309) all0))
          have Q337 := ((Q305.keep i304_3).keep i312_2)
          obtain ⟨cq336, kq336, q336a, q336b, q336c⟩ := isOf hZ e327 Q337
          obtain ⟨_, _, ⟨T336, L336, k336, n336⟩, -, X336, ⟨Lc336, hQ336, l336, y336, z336⟩, st336⟩ := X327.virtualBack hx (y := (⟨"com/example/postbag/postbag/broker/StoredBinding", "equals", "(Ljava/lang/Object;)Z"⟩ : MethodName)) (z := (⟨"com/example/postbag/postbag/broker/StoredBinding", "equals", "(Ljava/lang/Object;)Z"⟩ : MethodName)) hown (mvT hZ (hw _ (List.mem_of_getElem? (i := 40) rfl))) (mvT hZ (hw _ (List.mem_of_getElem? (i := 41) rfl))) (notFace_of_selects (args := #[]) (mvT hZ (hw _ (List.mem_of_getElem? (i := 43) rfl)))) (mvT hZ (hw _ (List.mem_of_getElem? (i := 43) rfl))) (mvT hZ (hw _ (List.mem_of_getElem? (i := 42) rfl))) (by decide) (backOf (W := 0) (rmBE_e l Z a0 hw [] b280 b293 cw r_283 r_286 r_298 r_304 (own_mk p0 ((p4 &&& (3 : Int32)) % (3 : Int32))) (own_mk p1 ((((p4.toUInt32 >>> ((2 : Int32) &&& 31).toUInt32).toInt32) &&& (3 : Int32)) % (3 : Int32))) (own_mk e2 l7) (own_mk k2 l8) T312.heap n0 (Nat.le_trans Z0 K312.1) i312_3 Q329 Q330 i312_4 i312_5 Q331 Q332 Q333 Q334 Q335 hw0 ne_r_283_r_298 ne_r_286_r_304 (own_mkLen _ _) (own_mkLen _ _) (own_mkLen _ _) (own_mkLen _ _)) hZ (hw _ (List.mem_of_getElem? (i := 44) rfl)) (hw _ (List.mem_of_getElem? (i := 2) rfl)) (by decide) (by decide)) q336a q336c (g := (mkF m 160 #[.val (.int p0), .val (.int p1), .val (.int e2), .val (.int k2), .val (.int p4), .val (.int ((p4 &&& (3 : Int32)) % (3 : Int32))), .val (.int ((((p4.toUInt32 >>> ((2 : Int32) &&& 31).toUInt32).toInt32) &&& (3 : Int32)) % (3 : Int32))), .val (.int l7), .val (.int l8), .val (.int (((p4.toUInt32 >>> ((10 : Int32) &&& 31).toUInt32).toInt32) &&& (3 : Int32))), .val (.ref b280), .val (.ref b293), .val (.int (0 : Int32))] [(.ref b293), (.ref b280)])) rfl (by rw [hml]; rfl) (Steps.refl _) (argsL := [(.ref b293)]) (rest := []) (lenOf own_pd6 rfl) rfl (by show 2 * 0 + _ ≤ _; exact Nat.le_of_eq rfl) (hb hby at_160) (fun _ _ => ⟨rfl, e327, (by decide : 26 + 0 ≤ _), (by decide : 52 + 0 ≤ _)⟩)
          dsimp only [Pt.U, Pt.locs, Pt.cells, Pt.slots] at X336 l336 y336 z336 st336 hQ336
          subst l336 y336 z336
          obtain ⟨rfl, N336q, e336⟩ := hQ336
          have N336 := Fr.app N327 N336q
          have hc165_338 : (own_f_rmBE_e (own_mk p0 ((p4 &&& (3 : Int32)) % (3 : Int32))) (own_mk p1 ((((p4.toUInt32 >>> ((2 : Int32) &&& 31).toUInt32).toInt32) &&& (3 : Int32)) % (3 : Int32))) (own_mk e2 l7) (own_mk k2 l8)) = (0 : Int32) := by unfold own_f_rmBE_e; rw [← own_same _ _ _ _ (own_l _) h7, ← own_same _ _ _ _ (own_l _) h8, if_neg hc134, if_pos hc146]
          obtain ⟨cq339, kq339, q339a, q339b, q339c⟩ := isOf hZ e336 i312_3
          obtain ⟨_, _, ⟨T339, L339, k339, n339⟩, -, X339, ⟨Lc339, hQ339, l339, y339, z339⟩, st339⟩ := X336.virtualBack hx (y := (⟨"com/example/postbag/postbag/broker/StoredBinding", "equals", "(Ljava/lang/Object;)Z"⟩ : MethodName)) (z := (⟨"com/example/postbag/postbag/broker/StoredBinding", "equals", "(Ljava/lang/Object;)Z"⟩ : MethodName)) hown (mvT hZ (hw _ (List.mem_of_getElem? (i := 40) rfl))) (mvT hZ (hw _ (List.mem_of_getElem? (i := 41) rfl))) (notFace_of_selects (args := #[]) (mvT hZ (hw _ (List.mem_of_getElem? (i := 43) rfl)))) (mvT hZ (hw _ (List.mem_of_getElem? (i := 43) rfl))) (mvT hZ (hw _ (List.mem_of_getElem? (i := 42) rfl))) (by decide) (backOf (W := 0) (rmBE_e l Z a0 hw [] b293 b280 cw r_298 r_304 r_283 r_286 (own_mk e2 l7) (own_mk k2 l8) (own_mk p0 ((p4 &&& (3 : Int32)) % (3 : Int32))) (own_mk p1 ((((p4.toUInt32 >>> ((2 : Int32) &&& 31).toUInt32).toInt32) &&& (3 : Int32)) % (3 : Int32))) T312.heap n0 (Nat.le_trans Z0 K312.1) Q337 i312_4 i312_5 Q329 Q330 Q333 Q334 Q331 Q332 Q335 hw0 (Ne.symm ne_r_283_r_298) (Ne.symm ne_r_286_r_304) (own_mkLen _ _) (own_mkLen _ _) (own_mkLen _ _) (own_mkLen _ _)) hZ (hw _ (List.mem_of_getElem? (i := 44) rfl)) (hw _ (List.mem_of_getElem? (i := 2) rfl)) (by decide) (by decide)) q339a q339c (g := (mkF m 172 #[.val (.int p0), .val (.int p1), .val (.int e2), .val (.int k2), .val (.int p4), .val (.int ((p4 &&& (3 : Int32)) % (3 : Int32))), .val (.int ((((p4.toUInt32 >>> ((2 : Int32) &&& 31).toUInt32).toInt32) &&& (3 : Int32)) % (3 : Int32))), .val (.int l7), .val (.int l8), .val (.int (((p4.toUInt32 >>> ((10 : Int32) &&& 31).toUInt32).toInt32) &&& (3 : Int32))), .val (.ref b280), .val (.ref b293), .val (.int (0 : Int32))] [(.ref b280), (.ref b293)])) rfl (by rw [hml]; rfl) (Steps.refl _) (argsL := [(.ref b280)]) (rest := []) (lenOf own_pd6 rfl) rfl (by show 2 * 0 + _ ≤ _; exact Nat.le_of_eq rfl) (hb hby at_172) (fun _ _ => ⟨rfl, e336, (by decide : 26 + 0 ≤ _), (by decide : 52 + 0 ≤ _)⟩)
          dsimp only [Pt.U, Pt.locs, Pt.cells, Pt.slots] at X339 l339 y339 z339 st339 hQ339
          subst l339 y339 z339
          obtain ⟨rfl, N339q, e339⟩ := hQ339
          have N339 := Fr.app N336 N339q
          have hc177_340 : (own_f_rmBE_e (own_mk e2 l7) (own_mk k2 l8) (own_mk p0 ((p4 &&& (3 : Int32)) % (3 : Int32))) (own_mk p1 ((((p4.toUInt32 >>> ((2 : Int32) &&& 31).toUInt32).toInt32) &&& (3 : Int32)) % (3 : Int32)))) = (0 : Int32) := by unfold own_f_rmBE_e; rw [own_eqLc, ← own_same _ _ _ _ (own_l _) h7, own_eqLc (own_mk k2 l8), ← own_same _ _ _ _ (own_l _) h8, if_neg hc134, if_pos hc146]
          obtain ⟨fs, hr, hrun, hended, hW, hsame⟩ := X339.leave (v := some (.int (1 : Int32))) (fun h => by rw [Bd.returns] at h; cases h)
          refine ⟨_, _, pre328 _ ?_, hrun, hended, _, _, rfl, ?_, (by show CHr Z own_EL s.vm s.heap T339.vm T339.heap; rw [hh, e339]; exact CH312.trans (CHv.at X339 hZ hEL CH312.1)), own_endW hS (by show _ ≤ T339.heap.size; rw [e339]; exact hk) hW (hsame.mono (by decide) (by decide))⟩
          · show Steps p.tables e below (T327.setTop (mkF m 146 #[.val (.int p0), .val (.int p1), .val (.int e2), .val (.int k2), .val (.int p4), .val (.int ((p4 &&& (3 : Int32)) % (3 : Int32))), .val (.int ((((p4.toUInt32 >>> ((2 : Int32) &&& 31).toUInt32).toInt32) &&& (3 : Int32)) % (3 : Int32))), .val (.int l7), .val (.int l8), .val (.int (((p4.toUInt32 >>> ((10 : Int32) &&& 31).toUInt32).toInt32) &&& (3 : Int32))), .val (.ref b280), .val (.ref b293), .unset] [(.int (own_f_rmS p1 ((((p4.toUInt32 >>> ((2 : Int32) &&& 31).toUInt32).toInt32) &&& (3 : Int32)) % (3 : Int32)) k2 l8))])) _
            refine XS.ifYes X327.here hx rfl (pc0 := 146) (pc' := 153) rfl (hb hby at_146) rfl ((if0 _ _).trans (teq hc146).1) (by decide) (by decide) ?_
            show Steps p.tables e below (T327.setTop (mkF m 153 #[.val (.int p0), .val (.int p1), .val (.int e2), .val (.int k2), .val (.int p4), .val (.int ((p4 &&& (3 : Int32)) % (3 : Int32))), .val (.int ((((p4.toUInt32 >>> ((2 : Int32) &&& 31).toUInt32).toInt32) &&& (3 : Int32)) % (3 : Int32))), .val (.int l7), .val (.int l8), .val (.int (((p4.toUInt32 >>> ((10 : Int32) &&& 31).toUInt32).toInt32) &&& (3 : Int32))), .val (.ref b280), .val (.ref b293), .unset] [])) _
            refine XS.iconst X327.here hx rfl (hb hby at_153) ?_
            show Steps p.tables e below (T327.setTop (mkF m 154 #[.val (.int p0), .val (.int p1), .val (.int e2), .val (.int k2), .val (.int p4), .val (.int ((p4 &&& (3 : Int32)) % (3 : Int32))), .val (.int ((((p4.toUInt32 >>> ((2 : Int32) &&& 31).toUInt32).toInt32) &&& (3 : Int32)) % (3 : Int32))), .val (.int l7), .val (.int l8), .val (.int (((p4.toUInt32 >>> ((10 : Int32) &&& 31).toUInt32).toInt32) &&& (3 : Int32))), .val (.ref b280), .val (.ref b293), .unset] [(.int (0 : Int32))])) _
            refine XS.istore X327.here hx rfl (hb hby at_154) rfl (l' := #[.val (.int p0), .val (.int p1), .val (.int e2), .val (.int k2), .val (.int p4), .val (.int ((p4 &&& (3 : Int32)) % (3 : Int32))), .val (.int ((((p4.toUInt32 >>> ((2 : Int32) &&& 31).toUInt32).toInt32) &&& (3 : Int32)) % (3 : Int32))), .val (.int l7), .val (.int l8), .val (.int (((p4.toUInt32 >>> ((10 : Int32) &&& 31).toUInt32).toInt32) &&& (3 : Int32))), .val (.ref b280), .val (.ref b293), .val (.int (0 : Int32))]) rfl ?_
            show Steps p.tables e below (T327.setTop (mkF m 156 #[.val (.int p0), .val (.int p1), .val (.int e2), .val (.int k2), .val (.int p4), .val (.int ((p4 &&& (3 : Int32)) % (3 : Int32))), .val (.int ((((p4.toUInt32 >>> ((2 : Int32) &&& 31).toUInt32).toInt32) &&& (3 : Int32)) % (3 : Int32))), .val (.int l7), .val (.int l8), .val (.int (((p4.toUInt32 >>> ((10 : Int32) &&& 31).toUInt32).toInt32) &&& (3 : Int32))), .val (.ref b280), .val (.ref b293), .val (.int (0 : Int32))] [])) _
            refine XS.aload X327.here hx rfl (hb hby at_156) rfl rfl ?_
            show Steps p.tables e below (T327.setTop (mkF m 158 #[.val (.int p0), .val (.int p1), .val (.int e2), .val (.int k2), .val (.int p4), .val (.int ((p4 &&& (3 : Int32)) % (3 : Int32))), .val (.int ((((p4.toUInt32 >>> ((2 : Int32) &&& 31).toUInt32).toInt32) &&& (3 : Int32)) % (3 : Int32))), .val (.int l7), .val (.int l8), .val (.int (((p4.toUInt32 >>> ((10 : Int32) &&& 31).toUInt32).toInt32) &&& (3 : Int32))), .val (.ref b280), .val (.ref b293), .val (.int (0 : Int32))] [(.ref b280)])) _
            refine XS.aload X327.here hx rfl (hb hby at_158) rfl rfl ?_
            show Steps p.tables e below (T327.setTop (mkF m 160 #[.val (.int p0), .val (.int p1), .val (.int e2), .val (.int k2), .val (.int p4), .val (.int ((p4 &&& (3 : Int32)) % (3 : Int32))), .val (.int ((((p4.toUInt32 >>> ((2 : Int32) &&& 31).toUInt32).toInt32) &&& (3 : Int32)) % (3 : Int32))), .val (.int l7), .val (.int l8), .val (.int (((p4.toUInt32 >>> ((10 : Int32) &&& 31).toUInt32).toInt32) &&& (3 : Int32))), .val (.ref b280), .val (.ref b293), .val (.int (0 : Int32))] [(.ref b293), (.ref b280)])) _
            refine st336.trans ?_
            show Steps p.tables e below (T336.setTop (mkF m 163 #[.val (.int p0), .val (.int p1), .val (.int e2), .val (.int k2), .val (.int p4), .val (.int ((p4 &&& (3 : Int32)) % (3 : Int32))), .val (.int ((((p4.toUInt32 >>> ((2 : Int32) &&& 31).toUInt32).toInt32) &&& (3 : Int32)) % (3 : Int32))), .val (.int l7), .val (.int l8), .val (.int (((p4.toUInt32 >>> ((10 : Int32) &&& 31).toUInt32).toInt32) &&& (3 : Int32))), .val (.ref b280), .val (.ref b293), .val (.int (0 : Int32))] [(.int (own_f_rmBE_e (own_mk p0 ((p4 &&& (3 : Int32)) % (3 : Int32))) (own_mk p1 ((((p4.toUInt32 >>> ((2 : Int32) &&& 31).toUInt32).toInt32) &&& (3 : Int32)) % (3 : Int32))) (own_mk e2 l7) (own_mk k2 l8)))])) _
            refine XS.iload X336.here hx rfl (hb hby at_163) rfl ?_
            show Steps p.tables e below (T336.setTop (mkF m 165 #[.val (.int p0), .val (.int p1), .val (.int e2), .val (.int k2), .val (.int p4), .val (.int ((p4 &&& (3 : Int32)) % (3 : Int32))), .val (.int ((((p4.toUInt32 >>> ((2 : Int32) &&& 31).toUInt32).toInt32) &&& (3 : Int32)) % (3 : Int32))), .val (.int l7), .val (.int l8), .val (.int (((p4.toUInt32 >>> ((10 : Int32) &&& 31).toUInt32).toInt32) &&& (3 : Int32))), .val (.ref b280), .val (.ref b293), .val (.int (0 : Int32))] [(.int (0 : Int32)), (.int (own_f_rmBE_e (own_mk p0 ((p4 &&& (3 : Int32)) % (3 : Int32))) (own_mk p1 ((((p4.toUInt32 >>> ((2 : Int32) &&& 31).toUInt32).toInt32) &&& (3 : Int32)) % (3 : Int32))) (own_mk e2 l7) (own_mk k2 l8)))])) _
            refine XS.icmpNo X336.here hx rfl (hb hby at_165) rfl (teq hc165_338).2 ?_
            show Steps p.tables e below (T336.setTop (mkF m 168 #[.val (.int p0), .val (.int p1), .val (.int e2), .val (.int k2), .val (.int p4), .val (.int ((p4 &&& (3 : Int32)) % (3 : Int32))), .val (.int ((((p4.toUInt32 >>> ((2 : Int32) &&& 31).toUInt32).toInt32) &&& (3 : Int32)) % (3 : Int32))), .val (.int l7), .val (.int l8), .val (.int (((p4.toUInt32 >>> ((10 : Int32) &&& 31).toUInt32).toInt32) &&& (3 : Int32))), .val (.ref b280), .val (.ref b293), .val (.int (0 : Int32))] [])) _
            refine XS.aload X336.here hx rfl (hb hby at_168) rfl rfl ?_
            show Steps p.tables e below (T336.setTop (mkF m 170 #[.val (.int p0), .val (.int p1), .val (.int e2), .val (.int k2), .val (.int p4), .val (.int ((p4 &&& (3 : Int32)) % (3 : Int32))), .val (.int ((((p4.toUInt32 >>> ((2 : Int32) &&& 31).toUInt32).toInt32) &&& (3 : Int32)) % (3 : Int32))), .val (.int l7), .val (.int l8), .val (.int (((p4.toUInt32 >>> ((10 : Int32) &&& 31).toUInt32).toInt32) &&& (3 : Int32))), .val (.ref b280), .val (.ref b293), .val (.int (0 : Int32))] [(.ref b293)])) _
            refine XS.aload X336.here hx rfl (hb hby at_170) rfl rfl ?_
            show Steps p.tables e below (T336.setTop (mkF m 172 #[.val (.int p0), .val (.int p1), .val (.int e2), .val (.int k2), .val (.int p4), .val (.int ((p4 &&& (3 : Int32)) % (3 : Int32))), .val (.int ((((p4.toUInt32 >>> ((2 : Int32) &&& 31).toUInt32).toInt32) &&& (3 : Int32)) % (3 : Int32))), .val (.int l7), .val (.int l8), .val (.int (((p4.toUInt32 >>> ((10 : Int32) &&& 31).toUInt32).toInt32) &&& (3 : Int32))), .val (.ref b280), .val (.ref b293), .val (.int (0 : Int32))] [(.ref b280), (.ref b293)])) _
            refine st339.trans ?_
            show Steps p.tables e below (T339.setTop (mkF m 175 #[.val (.int p0), .val (.int p1), .val (.int e2), .val (.int k2), .val (.int p4), .val (.int ((p4 &&& (3 : Int32)) % (3 : Int32))), .val (.int ((((p4.toUInt32 >>> ((2 : Int32) &&& 31).toUInt32).toInt32) &&& (3 : Int32)) % (3 : Int32))), .val (.int l7), .val (.int l8), .val (.int (((p4.toUInt32 >>> ((10 : Int32) &&& 31).toUInt32).toInt32) &&& (3 : Int32))), .val (.ref b280), .val (.ref b293), .val (.int (0 : Int32))] [(.int (own_f_rmBE_e (own_mk e2 l7) (own_mk k2 l8) (own_mk p0 ((p4 &&& (3 : Int32)) % (3 : Int32))) (own_mk p1 ((((p4.toUInt32 >>> ((2 : Int32) &&& 31).toUInt32).toInt32) &&& (3 : Int32)) % (3 : Int32)))))])) _
            refine XS.iload X339.here hx rfl (hb hby at_175) rfl ?_
            show Steps p.tables e below (T339.setTop (mkF m 177 #[.val (.int p0), .val (.int p1), .val (.int e2), .val (.int k2), .val (.int p4), .val (.int ((p4 &&& (3 : Int32)) % (3 : Int32))), .val (.int ((((p4.toUInt32 >>> ((2 : Int32) &&& 31).toUInt32).toInt32) &&& (3 : Int32)) % (3 : Int32))), .val (.int l7), .val (.int l8), .val (.int (((p4.toUInt32 >>> ((10 : Int32) &&& 31).toUInt32).toInt32) &&& (3 : Int32))), .val (.ref b280), .val (.ref b293), .val (.int (0 : Int32))] [(.int (0 : Int32)), (.int (own_f_rmBE_e (own_mk e2 l7) (own_mk k2 l8) (own_mk p0 ((p4 &&& (3 : Int32)) % (3 : Int32))) (own_mk p1 ((((p4.toUInt32 >>> ((2 : Int32) &&& 31).toUInt32).toInt32) &&& (3 : Int32)) % (3 : Int32)))))])) _
            refine XS.icmpNo X339.here hx rfl (hb hby at_177) rfl (teq hc177_340).2 ?_
            show Steps p.tables e below (T339.setTop (mkF m 180 #[.val (.int p0), .val (.int p1), .val (.int e2), .val (.int k2), .val (.int p4), .val (.int ((p4 &&& (3 : Int32)) % (3 : Int32))), .val (.int ((((p4.toUInt32 >>> ((2 : Int32) &&& 31).toUInt32).toInt32) &&& (3 : Int32)) % (3 : Int32))), .val (.int l7), .val (.int l8), .val (.int (((p4.toUInt32 >>> ((10 : Int32) &&& 31).toUInt32).toInt32) &&& (3 : Int32))), .val (.ref b280), .val (.ref b293), .val (.int (0 : Int32))] [])) _
            refine XS.iconst X339.here hx rfl (hb hby at_180) ?_
            show Steps p.tables e below (T339.setTop (mkF m 181 #[.val (.int p0), .val (.int p1), .val (.int e2), .val (.int k2), .val (.int p4), .val (.int ((p4 &&& (3 : Int32)) % (3 : Int32))), .val (.int ((((p4.toUInt32 >>> ((2 : Int32) &&& 31).toUInt32).toInt32) &&& (3 : Int32)) % (3 : Int32))), .val (.int l7), .val (.int l8), .val (.int (((p4.toUInt32 >>> ((10 : Int32) &&& 31).toUInt32).toInt32) &&& (3 : Int32))), .val (.ref b280), .val (.ref b293), .val (.int (0 : Int32))] [(.int (1 : Int32))])) _
            refine XS.goto X339.here hx rfl (pc0 := 181) (pc' := 185) rfl (hb hby at_181) (by decide) (by decide) ?_
            show Steps p.tables e below (T339.setTop (mkF m 185 #[.val (.int p0), .val (.int p1), .val (.int e2), .val (.int k2), .val (.int p4), .val (.int ((p4 &&& (3 : Int32)) % (3 : Int32))), .val (.int ((((p4.toUInt32 >>> ((2 : Int32) &&& 31).toUInt32).toInt32) &&& (3 : Int32)) % (3 : Int32))), .val (.int l7), .val (.int l8), .val (.int (((p4.toUInt32 >>> ((10 : Int32) &&& 31).toUInt32).toInt32) &&& (3 : Int32))), .val (.ref b280), .val (.ref b293), .val (.int (0 : Int32))] [(.int (1 : Int32))])) _
            exact retN X339 hx (t := .boolean) Bd.returns (by simp) (hb hby at_185) hr
          · show Q0 Z p0 p1 p2 p3 p4 cw h0 n0 _ T339.heap _
            rw [e339]
            exact ⟨rfl, N339⟩
        · have Q341 := ((((i291_4.ext E293).keep i298_3 nin0).keep i304_3 nin0).keep i312_2 (ninS ne_b280_b293 nin0))
          have Q342 := ((((i291_5.ext E293).keep i298_3 nin0).keep i304_3 nin0).keep i312_2 (ninS ne_b280_b293 nin0))
          have Q343 := ((Q306.keep0 i304_3).keep1 i312_2 Q309 (hw _ (List.mem_of_getElem? (i := 1) rfl)) (by decide))
          have Q344 := ((Q307.keep0 i304_3).keep1 i312_2 Q309 (hw _ (List.mem_of_getElem? (i := 1) rfl)) (by decide))
          have Q345 := ((i298_5.keep0 i304_3).keep1 i312_2 Q309 (hw _ (List.mem_of_getElem? (i := 1) rfl)) (by decide))
          have Q346 := (i304_5.keep1 i312_2 Q309 (hw _ (List.mem_of_getElem? (i := 1) rfl)) (by decide))
          have Q347 := (own_staKeep (own_staKeep Q302 i304_3 all0) i312_2 (allS (own_exaPlain Q309) all0))
          have Q349 := ((Q305.keep i304_3).keep i312_2)
          obtain ⟨cq348, kq348, q348a, q348b, q348c⟩ := isOf hZ e327 Q349
          obtain ⟨_, _, ⟨T348, L348, k348, n348⟩, -, X348, ⟨Lc348, hQ348, l348, y348, z348⟩, st348⟩ := X327.virtualBack hx (y := (⟨"com/example/postbag/postbag/broker/StoredBinding", "equals", "(Ljava/lang/Object;)Z"⟩ : MethodName)) (z := (⟨"com/example/postbag/postbag/broker/StoredBinding", "equals", "(Ljava/lang/Object;)Z"⟩ : MethodName)) hown (mvT hZ (hw _ (List.mem_of_getElem? (i := 40) rfl))) (mvT hZ (hw _ (List.mem_of_getElem? (i := 41) rfl))) (notFace_of_selects (args := #[]) (mvT hZ (hw _ (List.mem_of_getElem? (i := 43) rfl)))) (mvT hZ (hw _ (List.mem_of_getElem? (i := 43) rfl))) (mvT hZ (hw _ (List.mem_of_getElem? (i := 42) rfl))) (by decide) (backOf (W := 0) (rmBE_e l Z a0 hw [] b280 b293 cw r_283 r_286 r_298 r_304 (own_mk p0 ((p4 &&& (3 : Int32)) % (3 : Int32))) (own_mk p1 ((((p4.toUInt32 >>> ((2 : Int32) &&& 31).toUInt32).toInt32) &&& (3 : Int32)) % (3 : Int32))) (own_mk e2 l7) (own_mk k2 l8) T312.heap n0 (Nat.le_trans Z0 K312.1) i312_3 Q341 Q342 i312_4 i312_5 Q343 Q344 Q345 Q346 Q347 hw0 ne_r_283_r_298 ne_r_286_r_304 (own_mkLen _ _) (own_mkLen _ _) (own_mkLen _ _) (own_mkLen _ _)) hZ (hw _ (List.mem_of_getElem? (i := 44) rfl)) (hw _ (List.mem_of_getElem? (i := 2) rfl)) (by decide) (by decide)) q348a q348c (g := (mkF m 160 #[.val (.int p0), .val (.int p1), .val (.int e2), .val (.int k2), .val (.int p4), .val (.int ((p4 &&& (3 : Int32)) % (3 : Int32))), .val (.int ((((p4.toUInt32 >>> ((2 : Int32) &&& 31).toUInt32).toInt32) &&& (3 : Int32)) % (3 : Int32))), .val (.int l7), .val (.int l8), .val (.int (((p4.toUInt32 >>> ((10 : Int32) &&& 31).toUInt32).toInt32) &&& (3 : Int32))), .val (.ref b280), .val (.ref b293), .val (.int (1 : Int32))] [(.ref b293), (.ref b280)])) rfl (by rw [hml]; rfl) (Steps.refl _) (argsL := [(.ref b293)]) (rest := []) (lenOf own_pd6 rfl) rfl (by show 2 * 0 + _ ≤ _; exact Nat.le_of_eq rfl) (hb hby at_160) (fun _ _ => ⟨rfl, e327, (by decide : 26 + 0 ≤ _), (by decide : 52 + 0 ≤ _)⟩)
          dsimp only [Pt.U, Pt.locs, Pt.cells, Pt.slots] at X348 l348 y348 z348 st348 hQ348
          subst l348 y348 z348
          obtain ⟨rfl, N348q, e348⟩ := hQ348
          have N348 := Fr.app N327 N348q
          have hc165_350 : (own_f_rmBE_e (own_mk p0 ((p4 &&& (3 : Int32)) % (3 : Int32))) (own_mk p1 ((((p4.toUInt32 >>> ((2 : Int32) &&& 31).toUInt32).toInt32) &&& (3 : Int32)) % (3 : Int32))) (own_mk e2 l7) (own_mk k2 l8)) = (1 : Int32) := by unfold own_f_rmBE_e; rw [← own_same _ _ _ _ (own_l _) h7, ← own_same _ _ _ _ (own_l _) h8, if_neg hc134, if_neg hc146]
          obtain ⟨cq351, kq351, q351a, q351b, q351c⟩ := isOf hZ e348 i312_3
          obtain ⟨_, _, ⟨T351, L351, k351, n351⟩, -, X351, ⟨Lc351, hQ351, l351, y351, z351⟩, st351⟩ := X348.virtualBack hx (y := (⟨"com/example/postbag/postbag/broker/StoredBinding", "equals", "(Ljava/lang/Object;)Z"⟩ : MethodName)) (z := (⟨"com/example/postbag/postbag/broker/StoredBinding", "equals", "(Ljava/lang/Object;)Z"⟩ : MethodName)) hown (mvT hZ (hw _ (List.mem_of_getElem? (i := 40) rfl))) (mvT hZ (hw _ (List.mem_of_getElem? (i := 41) rfl))) (notFace_of_selects (args := #[]) (mvT hZ (hw _ (List.mem_of_getElem? (i := 43) rfl)))) (mvT hZ (hw _ (List.mem_of_getElem? (i := 43) rfl))) (mvT hZ (hw _ (List.mem_of_getElem? (i := 42) rfl))) (by decide) (backOf (W := 0) (rmBE_e l Z a0 hw [] b293 b280 cw r_298 r_304 r_283 r_286 (own_mk e2 l7) (own_mk k2 l8) (own_mk p0 ((p4 &&& (3 : Int32)) % (3 : Int32))) (own_mk p1 ((((p4.toUInt32 >>> ((2 : Int32) &&& 31).toUInt32).toInt32) &&& (3 : Int32)) % (3 : Int32))) T312.heap n0 (Nat.le_trans Z0 K312.1) Q349 i312_4 i312_5 Q341 Q342 Q345 Q346 Q343 Q344 Q347 hw0 (Ne.symm ne_r_283_r_298) (Ne.symm ne_r_286_r_304) (own_mkLen _ _) (own_mkLen _ _) (own_mkLen _ _) (own_mkLen _ _)) hZ (hw _ (List.mem_of_getElem? (i := 44) rfl)) (hw _ (List.mem_of_getElem? (i := 2) rfl)) (by decide) (by decide)) q351a q351c (g := (mkF m 172 #[.val (.int p0), .val (.int p1), .val (.int e2), .val (.int k2), .val (.int p4), .val (.int ((p4 &&& (3 : Int32)) % (3 : Int32))), .val (.int ((((p4.toUInt32 >>> ((2 : Int32) &&& 31).toUInt32).toInt32) &&& (3 : Int32)) % (3 : Int32))), .val (.int l7), .val (.int l8), .val (.int (((p4.toUInt32 >>> ((10 : Int32) &&& 31).toUInt32).toInt32) &&& (3 : Int32))), .val (.ref b280), .val (.ref b293), .val (.int (1 : Int32))] [(.ref b280), (.ref b293)])) rfl (by rw [hml]; rfl) (Steps.refl _) (argsL := [(.ref b280)]) (rest := []) (lenOf own_pd6 rfl) rfl (by show 2 * 0 + _ ≤ _; exact Nat.le_of_eq rfl) (hb hby at_172) (fun _ _ => ⟨rfl, e348, (by decide : 26 + 0 ≤ _), (by decide : 52 + 0 ≤ _)⟩)
          dsimp only [Pt.U, Pt.locs, Pt.cells, Pt.slots] at X351 l351 y351 z351 st351 hQ351
          subst l351 y351 z351
          obtain ⟨rfl, N351q, e351⟩ := hQ351
          have N351 := Fr.app N348 N351q
          have hc177_352 : (own_f_rmBE_e (own_mk e2 l7) (own_mk k2 l8) (own_mk p0 ((p4 &&& (3 : Int32)) % (3 : Int32))) (own_mk p1 ((((p4.toUInt32 >>> ((2 : Int32) &&& 31).toUInt32).toInt32) &&& (3 : Int32)) % (3 : Int32)))) = (1 : Int32) := by unfold own_f_rmBE_e; rw [own_eqLc, ← own_same _ _ _ _ (own_l _) h7, own_eqLc (own_mk k2 l8), ← own_same _ _ _ _ (own_l _) h8, if_neg hc134, if_neg hc146]
          obtain ⟨fs, hr, hrun, hended, hW, hsame⟩ := X351.leave (v := some (.int (1 : Int32))) (fun h => by rw [Bd.returns] at h; cases h)
          refine ⟨_, _, pre328 _ ?_, hrun, hended, _, _, rfl, ?_, (by show CHr Z own_EL s.vm s.heap T351.vm T351.heap; rw [hh, e351]; exact CH312.trans (CHv.at X351 hZ hEL CH312.1)), own_endW hS (by show _ ≤ T351.heap.size; rw [e351]; exact hk) hW (hsame.mono (by decide) (by decide))⟩
          · show Steps p.tables e below (T327.setTop (mkF m 146 #[.val (.int p0), .val (.int p1), .val (.int e2), .val (.int k2), .val (.int p4), .val (.int ((p4 &&& (3 : Int32)) % (3 : Int32))), .val (.int ((((p4.toUInt32 >>> ((2 : Int32) &&& 31).toUInt32).toInt32) &&& (3 : Int32)) % (3 : Int32))), .val (.int l7), .val (.int l8), .val (.int (((p4.toUInt32 >>> ((10 : Int32) &&& 31).toUInt32).toInt32) &&& (3 : Int32))), .val (.ref b280), .val (.ref b293), .unset] [(.int (own_f_rmS p1 ((((p4.toUInt32 >>> ((2 : Int32) &&& 31).toUInt32).toInt32) &&& (3 : Int32)) % (3 : Int32)) k2 l8))])) _
            refine XS.ifNo X327.here hx rfl (hb hby at_146) rfl ((if0 _ _).trans (feq hc146).1) ?_
            show Steps p.tables e below (T327.setTop (mkF m 149 #[.val (.int p0), .val (.int p1), .val (.int e2), .val (.int k2), .val (.int p4), .val (.int ((p4 &&& (3 : Int32)) % (3 : Int32))), .val (.int ((((p4.toUInt32 >>> ((2 : Int32) &&& 31).toUInt32).toInt32) &&& (3 : Int32)) % (3 : Int32))), .val (.int l7), .val (.int l8), .val (.int (((p4.toUInt32 >>> ((10 : Int32) &&& 31).toUInt32).toInt32) &&& (3 : Int32))), .val (.ref b280), .val (.ref b293), .unset] [])) _
            refine XS.iconst X327.here hx rfl (hb hby at_149) ?_
            show Steps p.tables e below (T327.setTop (mkF m 150 #[.val (.int p0), .val (.int p1), .val (.int e2), .val (.int k2), .val (.int p4), .val (.int ((p4 &&& (3 : Int32)) % (3 : Int32))), .val (.int ((((p4.toUInt32 >>> ((2 : Int32) &&& 31).toUInt32).toInt32) &&& (3 : Int32)) % (3 : Int32))), .val (.int l7), .val (.int l8), .val (.int (((p4.toUInt32 >>> ((10 : Int32) &&& 31).toUInt32).toInt32) &&& (3 : Int32))), .val (.ref b280), .val (.ref b293), .unset] [(.int (1 : Int32))])) _
            refine XS.goto X327.here hx rfl (pc0 := 150) (pc' := 154) rfl (hb hby at_150) (by decide) (by decide) ?_
            show Steps p.tables e below (T327.setTop (mkF m 154 #[.val (.int p0), .val (.int p1), .val (.int e2), .val (.int k2), .val (.int p4), .val (.int ((p4 &&& (3 : Int32)) % (3 : Int32))), .val (.int ((((p4.toUInt32 >>> ((2 : Int32) &&& 31).toUInt32).toInt32) &&& (3 : Int32)) % (3 : Int32))), .val (.int l7), .val (.int l8), .val (.int (((p4.toUInt32 >>> ((10 : Int32) &&& 31).toUInt32).toInt32) &&& (3 : Int32))), .val (.ref b280), .val (.ref b293), .unset] [(.int (1 : Int32))])) _
            refine XS.istore X327.here hx rfl (hb hby at_154) rfl (l' := #[.val (.int p0), .val (.int p1), .val (.int e2), .val (.int k2), .val (.int p4), .val (.int ((p4 &&& (3 : Int32)) % (3 : Int32))), .val (.int ((((p4.toUInt32 >>> ((2 : Int32) &&& 31).toUInt32).toInt32) &&& (3 : Int32)) % (3 : Int32))), .val (.int l7), .val (.int l8), .val (.int (((p4.toUInt32 >>> ((10 : Int32) &&& 31).toUInt32).toInt32) &&& (3 : Int32))), .val (.ref b280), .val (.ref b293), .val (.int (1 : Int32))]) rfl ?_
            show Steps p.tables e below (T327.setTop (mkF m 156 #[.val (.int p0), .val (.int p1), .val (.int e2), .val (.int k2), .val (.int p4), .val (.int ((p4 &&& (3 : Int32)) % (3 : Int32))), .val (.int ((((p4.toUInt32 >>> ((2 : Int32) &&& 31).toUInt32).toInt32) &&& (3 : Int32)) % (3 : Int32))), .val (.int l7), .val (.int l8), .val (.int (((p4.toUInt32 >>> ((10 : Int32) &&& 31).toUInt32).toInt32) &&& (3 : Int32))), .val (.ref b280), .val (.ref b293), .val (.int (1 : Int32))] [])) _
            refine XS.aload X327.here hx rfl (hb hby at_156) rfl rfl ?_
            show Steps p.tables e below (T327.setTop (mkF m 158 #[.val (.int p0), .val (.int p1), .val (.int e2), .val (.int k2), .val (.int p4), .val (.int ((p4 &&& (3 : Int32)) % (3 : Int32))), .val (.int ((((p4.toUInt32 >>> ((2 : Int32) &&& 31).toUInt32).toInt32) &&& (3 : Int32)) % (3 : Int32))), .val (.int l7), .val (.int l8), .val (.int (((p4.toUInt32 >>> ((10 : Int32) &&& 31).toUInt32).toInt32) &&& (3 : Int32))), .val (.ref b280), .val (.ref b293), .val (.int (1 : Int32))] [(.ref b280)])) _
            refine XS.aload X327.here hx rfl (hb hby at_158) rfl rfl ?_
            show Steps p.tables e below (T327.setTop (mkF m 160 #[.val (.int p0), .val (.int p1), .val (.int e2), .val (.int k2), .val (.int p4), .val (.int ((p4 &&& (3 : Int32)) % (3 : Int32))), .val (.int ((((p4.toUInt32 >>> ((2 : Int32) &&& 31).toUInt32).toInt32) &&& (3 : Int32)) % (3 : Int32))), .val (.int l7), .val (.int l8), .val (.int (((p4.toUInt32 >>> ((10 : Int32) &&& 31).toUInt32).toInt32) &&& (3 : Int32))), .val (.ref b280), .val (.ref b293), .val (.int (1 : Int32))] [(.ref b293), (.ref b280)])) _
            refine st348.trans ?_
            show Steps p.tables e below (T348.setTop (mkF m 163 #[.val (.int p0), .val (.int p1), .val (.int e2), .val (.int k2), .val (.int p4), .val (.int ((p4 &&& (3 : Int32)) % (3 : Int32))), .val (.int ((((p4.toUInt32 >>> ((2 : Int32) &&& 31).toUInt32).toInt32) &&& (3 : Int32)) % (3 : Int32))), .val (.int l7), .val (.int l8), .val (.int (((p4.toUInt32 >>> ((10 : Int32) &&& 31).toUInt32).toInt32) &&& (3 : Int32))), .val (.ref b280), .val (.ref b293), .val (.int (1 : Int32))] [(.int (own_f_rmBE_e (own_mk p0 ((p4 &&& (3 : Int32)) % (3 : Int32))) (own_mk p1 ((((p4.toUInt32 >>> ((2 : Int32) &&& 31).toUInt32).toInt32) &&& (3 : Int32)) % (3 : Int32))) (own_mk e2 l7) (own_mk k2 l8)))])) _
            refine XS.iload X348.here hx rfl (hb hby at_163) rfl ?_
            show Steps p.tables e below (T348.setTop (mkF m 165 #[.val (.int p0), .val (.int p1), .val (.int e2), .val (.int k2), .val (.int p4), .val (.int ((p4 &&& (3 : Int32)) % (3 : Int32))), .val (.int ((((p4.toUInt32 >>> ((2 : Int32) &&& 31).toUInt32).toInt32) &&& (3 : Int32)) % (3 : Int32))), .val (.int l7), .val (.int l8), .val (.int (((p4.toUInt32 >>> ((10 : Int32) &&& 31).toUInt32).toInt32) &&& (3 : Int32))), .val (.ref b280), .val (.ref b293), .val (.int (1 : Int32))] [(.int (1 : Int32)), (.int (own_f_rmBE_e (own_mk p0 ((p4 &&& (3 : Int32)) % (3 : Int32))) (own_mk p1 ((((p4.toUInt32 >>> ((2 : Int32) &&& 31).toUInt32).toInt32) &&& (3 : Int32)) % (3 : Int32))) (own_mk e2 l7) (own_mk k2 l8)))])) _
            refine XS.icmpNo X348.here hx rfl (hb hby at_165) rfl (teq hc165_350).2 ?_
            show Steps p.tables e below (T348.setTop (mkF m 168 #[.val (.int p0), .val (.int p1), .val (.int e2), .val (.int k2), .val (.int p4), .val (.int ((p4 &&& (3 : Int32)) % (3 : Int32))), .val (.int ((((p4.toUInt32 >>> ((2 : Int32) &&& 31).toUInt32).toInt32) &&& (3 : Int32)) % (3 : Int32))), .val (.int l7), .val (.int l8), .val (.int (((p4.toUInt32 >>> ((10 : Int32) &&& 31).toUInt32).toInt32) &&& (3 : Int32))), .val (.ref b280), .val (.ref b293), .val (.int (1 : Int32))] [])) _
            refine XS.aload X348.here hx rfl (hb hby at_168) rfl rfl ?_
            show Steps p.tables e below (T348.setTop (mkF m 170 #[.val (.int p0), .val (.int p1), .val (.int e2), .val (.int k2), .val (.int p4), .val (.int ((p4 &&& (3 : Int32)) % (3 : Int32))), .val (.int ((((p4.toUInt32 >>> ((2 : Int32) &&& 31).toUInt32).toInt32) &&& (3 : Int32)) % (3 : Int32))), .val (.int l7), .val (.int l8), .val (.int (((p4.toUInt32 >>> ((10 : Int32) &&& 31).toUInt32).toInt32) &&& (3 : Int32))), .val (.ref b280), .val (.ref b293), .val (.int (1 : Int32))] [(.ref b293)])) _
            refine XS.aload X348.here hx rfl (hb hby at_170) rfl rfl ?_
            show Steps p.tables e below (T348.setTop (mkF m 172 #[.val (.int p0), .val (.int p1), .val (.int e2), .val (.int k2), .val (.int p4), .val (.int ((p4 &&& (3 : Int32)) % (3 : Int32))), .val (.int ((((p4.toUInt32 >>> ((2 : Int32) &&& 31).toUInt32).toInt32) &&& (3 : Int32)) % (3 : Int32))), .val (.int l7), .val (.int l8), .val (.int (((p4.toUInt32 >>> ((10 : Int32) &&& 31).toUInt32).toInt32) &&& (3 : Int32))), .val (.ref b280), .val (.ref b293), .val (.int (1 : Int32))] [(.ref b280), (.ref b293)])) _
            refine st351.trans ?_
            show Steps p.tables e below (T351.setTop (mkF m 175 #[.val (.int p0), .val (.int p1), .val (.int e2), .val (.int k2), .val (.int p4), .val (.int ((p4 &&& (3 : Int32)) % (3 : Int32))), .val (.int ((((p4.toUInt32 >>> ((2 : Int32) &&& 31).toUInt32).toInt32) &&& (3 : Int32)) % (3 : Int32))), .val (.int l7), .val (.int l8), .val (.int (((p4.toUInt32 >>> ((10 : Int32) &&& 31).toUInt32).toInt32) &&& (3 : Int32))), .val (.ref b280), .val (.ref b293), .val (.int (1 : Int32))] [(.int (own_f_rmBE_e (own_mk e2 l7) (own_mk k2 l8) (own_mk p0 ((p4 &&& (3 : Int32)) % (3 : Int32))) (own_mk p1 ((((p4.toUInt32 >>> ((2 : Int32) &&& 31).toUInt32).toInt32) &&& (3 : Int32)) % (3 : Int32)))))])) _
            refine XS.iload X351.here hx rfl (hb hby at_175) rfl ?_
            show Steps p.tables e below (T351.setTop (mkF m 177 #[.val (.int p0), .val (.int p1), .val (.int e2), .val (.int k2), .val (.int p4), .val (.int ((p4 &&& (3 : Int32)) % (3 : Int32))), .val (.int ((((p4.toUInt32 >>> ((2 : Int32) &&& 31).toUInt32).toInt32) &&& (3 : Int32)) % (3 : Int32))), .val (.int l7), .val (.int l8), .val (.int (((p4.toUInt32 >>> ((10 : Int32) &&& 31).toUInt32).toInt32) &&& (3 : Int32))), .val (.ref b280), .val (.ref b293), .val (.int (1 : Int32))] [(.int (1 : Int32)), (.int (own_f_rmBE_e (own_mk e2 l7) (own_mk k2 l8) (own_mk p0 ((p4 &&& (3 : Int32)) % (3 : Int32))) (own_mk p1 ((((p4.toUInt32 >>> ((2 : Int32) &&& 31).toUInt32).toInt32) &&& (3 : Int32)) % (3 : Int32)))))])) _
            refine XS.icmpNo X351.here hx rfl (hb hby at_177) rfl (teq hc177_352).2 ?_
            show Steps p.tables e below (T351.setTop (mkF m 180 #[.val (.int p0), .val (.int p1), .val (.int e2), .val (.int k2), .val (.int p4), .val (.int ((p4 &&& (3 : Int32)) % (3 : Int32))), .val (.int ((((p4.toUInt32 >>> ((2 : Int32) &&& 31).toUInt32).toInt32) &&& (3 : Int32)) % (3 : Int32))), .val (.int l7), .val (.int l8), .val (.int (((p4.toUInt32 >>> ((10 : Int32) &&& 31).toUInt32).toInt32) &&& (3 : Int32))), .val (.ref b280), .val (.ref b293), .val (.int (1 : Int32))] [])) _
            refine XS.iconst X351.here hx rfl (hb hby at_180) ?_
            show Steps p.tables e below (T351.setTop (mkF m 181 #[.val (.int p0), .val (.int p1), .val (.int e2), .val (.int k2), .val (.int p4), .val (.int ((p4 &&& (3 : Int32)) % (3 : Int32))), .val (.int ((((p4.toUInt32 >>> ((2 : Int32) &&& 31).toUInt32).toInt32) &&& (3 : Int32)) % (3 : Int32))), .val (.int l7), .val (.int l8), .val (.int (((p4.toUInt32 >>> ((10 : Int32) &&& 31).toUInt32).toInt32) &&& (3 : Int32))), .val (.ref b280), .val (.ref b293), .val (.int (1 : Int32))] [(.int (1 : Int32))])) _
            refine XS.goto X351.here hx rfl (pc0 := 181) (pc' := 185) rfl (hb hby at_181) (by decide) (by decide) ?_
            show Steps p.tables e below (T351.setTop (mkF m 185 #[.val (.int p0), .val (.int p1), .val (.int e2), .val (.int k2), .val (.int p4), .val (.int ((p4 &&& (3 : Int32)) % (3 : Int32))), .val (.int ((((p4.toUInt32 >>> ((2 : Int32) &&& 31).toUInt32).toInt32) &&& (3 : Int32)) % (3 : Int32))), .val (.int l7), .val (.int l8), .val (.int (((p4.toUInt32 >>> ((10 : Int32) &&& 31).toUInt32).toInt32) &&& (3 : Int32))), .val (.ref b280), .val (.ref b293), .val (.int (1 : Int32))] [(.int (1 : Int32))])) _
            exact retN X351 hx (t := .boolean) Bd.returns (by simp) (hb hby at_185) hr
          · show Q0 Z p0 p1 p2 p3 p4 cw h0 n0 _ T351.heap _
            rw [e351]
            exact ⟨rfl, N351⟩
    · have pre353 : ∀ t, Steps p.tables e below (T291.setTop (mkF m 189 #[.val (.int p0), .val (.int p1), .val (.int e2), .val (.int k2), .val (.int p4), .val (.int ((p4 &&& (3 : Int32)) % (3 : Int32))), .val (.int ((((p4.toUInt32 >>> ((2 : Int32) &&& 31).toUInt32).toInt32) &&& (3 : Int32)) % (3 : Int32))), .val (.int l7), .val (.int l8), .val (.int (((p4.toUInt32 >>> ((10 : Int32) &&& 31).toUInt32).toInt32) &&& (3 : Int32))), .val (.ref b280), .unset, .unset] [(.int (1 : Int32)), (.int (((p4.toUInt32 >>> ((10 : Int32) &&& 31).toUInt32).toInt32) &&& (3 : Int32)))])) t → Steps p.tables e below (s₁.setTop (entryFrame m #[(.int p0), (.int p1), (.int p2), (.int p3), (.int p4)] maxLocals)) t := fun t k => by
        refine pre292 _ ?_
        show Steps p.tables e below (T291.setTop (mkF m 101 #[.val (.int p0), .val (.int p1), .val (.int e2), .val (.int k2), .val (.int p4), .val (.int ((p4 &&& (3 : Int32)) % (3 : Int32))), .val (.int ((((p4.toUInt32 >>> ((2 : Int32) &&& 31).toUInt32).toInt32) &&& (3 : Int32)) % (3 : Int32))), .val (.int l7), .val (.int l8), .val (.int (((p4.toUInt32 >>> ((10 : Int32) &&& 31).toUInt32).toInt32) &&& (3 : Int32))), .val (.ref b280), .unset, .unset] [(.int (((p4.toUInt32 >>> ((10 : Int32) &&& 31).toUInt32).toInt32) &&& (3 : Int32)))])) _
        refine XS.ifYes X291.here hx rfl (pc0 := 101) (pc' := 186) rfl (hb hby at_101) rfl ((if0 _ _).trans (feq hc101).2) (by decide) (by decide) ?_
        show Steps p.tables e below (T291.setTop (mkF m 186 #[.val (.int p0), .val (.int p1), .val (.int e2), .val (.int k2), .val (.int p4), .val (.int ((p4 &&& (3 : Int32)) % (3 : Int32))), .val (.int ((((p4.toUInt32 >>> ((2 : Int32) &&& 31).toUInt32).toInt32) &&& (3 : Int32)) % (3 : Int32))), .val (.int l7), .val (.int l8), .val (.int (((p4.toUInt32 >>> ((10 : Int32) &&& 31).toUInt32).toInt32) &&& (3 : Int32))), .val (.ref b280), .unset, .unset] [])) _
        refine XS.iload X291.here hx rfl (hb hby at_186) rfl ?_
        show Steps p.tables e below (T291.setTop (mkF m 188 #[.val (.int p0), .val (.int p1), .val (.int e2), .val (.int k2), .val (.int p4), .val (.int ((p4 &&& (3 : Int32)) % (3 : Int32))), .val (.int ((((p4.toUInt32 >>> ((2 : Int32) &&& 31).toUInt32).toInt32) &&& (3 : Int32)) % (3 : Int32))), .val (.int l7), .val (.int l8), .val (.int (((p4.toUInt32 >>> ((10 : Int32) &&& 31).toUInt32).toInt32) &&& (3 : Int32))), .val (.ref b280), .unset, .unset] [(.int (((p4.toUInt32 >>> ((10 : Int32) &&& 31).toUInt32).toInt32) &&& (3 : Int32)))])) _
        refine XS.iconst X291.here hx rfl (hb hby at_188) ?_
        exact k
      by_cases hc189 : (((p4.toUInt32 >>> ((10 : Int32) &&& 31).toUInt32).toInt32) &&& (3 : Int32)) = (1 : Int32)
      · obtain ⟨cq354, kq354, q354a, q354b, q354c⟩ := isOf hZ rfl i291_3
        obtain ⟨_, _, ⟨T354, L354, k354, n354⟩, -, X354, ⟨Lc354, hQ354, l354, y354, z354⟩, st354⟩ := X291.virtualBack hx (y := (⟨"com/example/postbag/postbag/broker/StoredBinding", "equals", "(Ljava/lang/Object;)Z"⟩ : MethodName)) (z := (⟨"com/example/postbag/postbag/broker/StoredBinding", "equals", "(Ljava/lang/Object;)Z"⟩ : MethodName)) hown (mvT hZ (hw _ (List.mem_of_getElem? (i := 40) rfl))) (mvT hZ (hw _ (List.mem_of_getElem? (i := 41) rfl))) (notFace_of_selects (args := #[]) (mvT hZ (hw _ (List.mem_of_getElem? (i := 43) rfl)))) (mvT hZ (hw _ (List.mem_of_getElem? (i := 43) rfl))) (mvT hZ (hw _ (List.mem_of_getElem? (i := 42) rfl))) (by decide) (backOf (W := 0) (rmBE_n l Z a0 hw [] b280 T291.heap n0 (Nat.le_trans Z0 K291.1) ) hZ (hw _ (List.mem_of_getElem? (i := 44) rfl)) (hw _ (List.mem_of_getElem? (i := 2) rfl)) (by decide) (by decide)) q354a q354c (g := (mkF m 199 #[.val (.int p0), .val (.int p1), .val (.int e2), .val (.int k2), .val (.int p4), .val (.int ((p4 &&& (3 : Int32)) % (3 : Int32))), .val (.int ((((p4.toUInt32 >>> ((2 : Int32) &&& 31).toUInt32).toInt32) &&& (3 : Int32)) % (3 : Int32))), .val (.int l7), .val (.int l8), .val (.int (((p4.toUInt32 >>> ((10 : Int32) &&& 31).toUInt32).toInt32) &&& (3 : Int32))), .val (.ref b280), .val .null, .unset] [.null, (.ref b280)])) rfl (by rw [hml]; rfl) (Steps.refl _) (argsL := [.null]) (rest := []) (lenOf own_pd6 rfl) rfl (by show 2 * 0 + _ ≤ _; exact Nat.le_of_eq rfl) (hb hby at_199) (fun _ _ => ⟨rfl, rfl, (by decide : 13 + 0 ≤ _), (by decide : 26 + 0 ≤ _)⟩)
        dsimp only [Pt.U, Pt.locs, Pt.cells, Pt.slots] at X354 l354 y354 z354 st354 hQ354
        subst l354 y354 z354
        obtain ⟨rfl, N354q, e354⟩ := hQ354
        have N354 := Fr.app N291 N354q
        obtain ⟨fs, hr, hrun, hended, hW, hsame⟩ := X354.leave (v := some (.int (1 : Int32))) (fun h => by rw [Bd.returns] at h; cases h)
        refine ⟨_, _, pre353 _ ?_, hrun, hended, _, _, rfl, ?_, (by show CHr Z own_EL s.vm s.heap T354.vm T354.heap; rw [hh, e354]; exact CH291.trans (CHv.at X354 hZ hEL CH291.1)), own_endW hS (by show _ ≤ T354.heap.size; rw [e354]; exact hk) hW (hsame.mono (by decide) (by decide))⟩
        · show Steps p.tables e below (T291.setTop (mkF m 189 #[.val (.int p0), .val (.int p1), .val (.int e2), .val (.int k2), .val (.int p4), .val (.int ((p4 &&& (3 : Int32)) % (3 : Int32))), .val (.int ((((p4.toUInt32 >>> ((2 : Int32) &&& 31).toUInt32).toInt32) &&& (3 : Int32)) % (3 : Int32))), .val (.int l7), .val (.int l8), .val (.int (((p4.toUInt32 >>> ((10 : Int32) &&& 31).toUInt32).toInt32) &&& (3 : Int32))), .val (.ref b280), .unset, .unset] [(.int (1 : Int32)), (.int (((p4.toUInt32 >>> ((10 : Int32) &&& 31).toUInt32).toInt32) &&& (3 : Int32)))])) _
          refine XS.icmpNo X291.here hx rfl (hb hby at_189) rfl (teq hc189).2 ?_
          show Steps p.tables e below (T291.setTop (mkF m 192 #[.val (.int p0), .val (.int p1), .val (.int e2), .val (.int k2), .val (.int p4), .val (.int ((p4 &&& (3 : Int32)) % (3 : Int32))), .val (.int ((((p4.toUInt32 >>> ((2 : Int32) &&& 31).toUInt32).toInt32) &&& (3 : Int32)) % (3 : Int32))), .val (.int l7), .val (.int l8), .val (.int (((p4.toUInt32 >>> ((10 : Int32) &&& 31).toUInt32).toInt32) &&& (3 : Int32))), .val (.ref b280), .unset, .unset] [])) _
          refine XS.aconstNull X291.here hx rfl (hb hby at_192) ?_
          show Steps p.tables e below (T291.setTop (mkF m 193 #[.val (.int p0), .val (.int p1), .val (.int e2), .val (.int k2), .val (.int p4), .val (.int ((p4 &&& (3 : Int32)) % (3 : Int32))), .val (.int ((((p4.toUInt32 >>> ((2 : Int32) &&& 31).toUInt32).toInt32) &&& (3 : Int32)) % (3 : Int32))), .val (.int l7), .val (.int l8), .val (.int (((p4.toUInt32 >>> ((10 : Int32) &&& 31).toUInt32).toInt32) &&& (3 : Int32))), .val (.ref b280), .unset, .unset] [.null])) _
          refine XS.astore X291.here hx rfl (hb hby at_193) rfl rfl (l' := #[.val (.int p0), .val (.int p1), .val (.int e2), .val (.int k2), .val (.int p4), .val (.int ((p4 &&& (3 : Int32)) % (3 : Int32))), .val (.int ((((p4.toUInt32 >>> ((2 : Int32) &&& 31).toUInt32).toInt32) &&& (3 : Int32)) % (3 : Int32))), .val (.int l7), .val (.int l8), .val (.int (((p4.toUInt32 >>> ((10 : Int32) &&& 31).toUInt32).toInt32) &&& (3 : Int32))), .val (.ref b280), .val .null, .unset]) rfl ?_
          show Steps p.tables e below (T291.setTop (mkF m 195 #[.val (.int p0), .val (.int p1), .val (.int e2), .val (.int k2), .val (.int p4), .val (.int ((p4 &&& (3 : Int32)) % (3 : Int32))), .val (.int ((((p4.toUInt32 >>> ((2 : Int32) &&& 31).toUInt32).toInt32) &&& (3 : Int32)) % (3 : Int32))), .val (.int l7), .val (.int l8), .val (.int (((p4.toUInt32 >>> ((10 : Int32) &&& 31).toUInt32).toInt32) &&& (3 : Int32))), .val (.ref b280), .val .null, .unset] [])) _
          refine XS.aload X291.here hx rfl (hb hby at_195) rfl rfl ?_
          show Steps p.tables e below (T291.setTop (mkF m 197 #[.val (.int p0), .val (.int p1), .val (.int e2), .val (.int k2), .val (.int p4), .val (.int ((p4 &&& (3 : Int32)) % (3 : Int32))), .val (.int ((((p4.toUInt32 >>> ((2 : Int32) &&& 31).toUInt32).toInt32) &&& (3 : Int32)) % (3 : Int32))), .val (.int l7), .val (.int l8), .val (.int (((p4.toUInt32 >>> ((10 : Int32) &&& 31).toUInt32).toInt32) &&& (3 : Int32))), .val (.ref b280), .val .null, .unset] [(.ref b280)])) _
          refine XS.aload X291.here hx rfl (hb hby at_197) rfl rfl ?_
          show Steps p.tables e below (T291.setTop (mkF m 199 #[.val (.int p0), .val (.int p1), .val (.int e2), .val (.int k2), .val (.int p4), .val (.int ((p4 &&& (3 : Int32)) % (3 : Int32))), .val (.int ((((p4.toUInt32 >>> ((2 : Int32) &&& 31).toUInt32).toInt32) &&& (3 : Int32)) % (3 : Int32))), .val (.int l7), .val (.int l8), .val (.int (((p4.toUInt32 >>> ((10 : Int32) &&& 31).toUInt32).toInt32) &&& (3 : Int32))), .val (.ref b280), .val .null, .unset] [.null, (.ref b280)])) _
          refine st354.trans ?_
          show Steps p.tables e below (T354.setTop (mkF m 202 #[.val (.int p0), .val (.int p1), .val (.int e2), .val (.int k2), .val (.int p4), .val (.int ((p4 &&& (3 : Int32)) % (3 : Int32))), .val (.int ((((p4.toUInt32 >>> ((2 : Int32) &&& 31).toUInt32).toInt32) &&& (3 : Int32)) % (3 : Int32))), .val (.int l7), .val (.int l8), .val (.int (((p4.toUInt32 >>> ((10 : Int32) &&& 31).toUInt32).toInt32) &&& (3 : Int32))), .val (.ref b280), .val .null, .unset] [(.int (0 : Int32))])) _
          refine XS.ifNo X354.here hx rfl (hb hby at_202) rfl ((if0 _ _).trans (teq (by decide : ((0 : Int32) = (0 : Int32)))).2) ?_
          show Steps p.tables e below (T354.setTop (mkF m 205 #[.val (.int p0), .val (.int p1), .val (.int e2), .val (.int k2), .val (.int p4), .val (.int ((p4 &&& (3 : Int32)) % (3 : Int32))), .val (.int ((((p4.toUInt32 >>> ((2 : Int32) &&& 31).toUInt32).toInt32) &&& (3 : Int32)) % (3 : Int32))), .val (.int l7), .val (.int l8), .val (.int (((p4.toUInt32 >>> ((10 : Int32) &&& 31).toUInt32).toInt32) &&& (3 : Int32))), .val (.ref b280), .val .null, .unset] [])) _
          refine XS.iconst X354.here hx rfl (hb hby at_205) ?_
          show Steps p.tables e below (T354.setTop (mkF m 206 #[.val (.int p0), .val (.int p1), .val (.int e2), .val (.int k2), .val (.int p4), .val (.int ((p4 &&& (3 : Int32)) % (3 : Int32))), .val (.int ((((p4.toUInt32 >>> ((2 : Int32) &&& 31).toUInt32).toInt32) &&& (3 : Int32)) % (3 : Int32))), .val (.int l7), .val (.int l8), .val (.int (((p4.toUInt32 >>> ((10 : Int32) &&& 31).toUInt32).toInt32) &&& (3 : Int32))), .val (.ref b280), .val .null, .unset] [(.int (1 : Int32))])) _
          refine XS.goto X354.here hx rfl (pc0 := 206) (pc' := 210) rfl (hb hby at_206) (by decide) (by decide) ?_
          show Steps p.tables e below (T354.setTop (mkF m 210 #[.val (.int p0), .val (.int p1), .val (.int e2), .val (.int k2), .val (.int p4), .val (.int ((p4 &&& (3 : Int32)) % (3 : Int32))), .val (.int ((((p4.toUInt32 >>> ((2 : Int32) &&& 31).toUInt32).toInt32) &&& (3 : Int32)) % (3 : Int32))), .val (.int l7), .val (.int l8), .val (.int (((p4.toUInt32 >>> ((10 : Int32) &&& 31).toUInt32).toInt32) &&& (3 : Int32))), .val (.ref b280), .val .null, .unset] [(.int (1 : Int32))])) _
          exact retN X354 hx (t := .boolean) Bd.returns (by simp) (hb hby at_210) hr
        · show Q0 Z p0 p1 p2 p3 p4 cw h0 n0 _ T354.heap _
          rw [e354]
          exact ⟨rfl, N354⟩
      · have pre355 : ∀ t, Steps p.tables e below (T291.setTop (mkF m 214 #[.val (.int p0), .val (.int p1), .val (.int e2), .val (.int k2), .val (.int p4), .val (.int ((p4 &&& (3 : Int32)) % (3 : Int32))), .val (.int ((((p4.toUInt32 >>> ((2 : Int32) &&& 31).toUInt32).toInt32) &&& (3 : Int32)) % (3 : Int32))), .val (.int l7), .val (.int l8), .val (.int (((p4.toUInt32 >>> ((10 : Int32) &&& 31).toUInt32).toInt32) &&& (3 : Int32))), .val (.ref b280), .unset, .unset] [(.int (2 : Int32)), (.int (((p4.toUInt32 >>> ((10 : Int32) &&& 31).toUInt32).toInt32) &&& (3 : Int32)))])) t → Steps p.tables e below (s₁.setTop (entryFrame m #[(.int p0), (.int p1), (.int p2), (.int p3), (.int p4)] maxLocals)) t := fun t k => by
          refine pre353 _ ?_
          show Steps p.tables e below (T291.setTop (mkF m 189 #[.val (.int p0), .val (.int p1), .val (.int e2), .val (.int k2), .val (.int p4), .val (.int ((p4 &&& (3 : Int32)) % (3 : Int32))), .val (.int ((((p4.toUInt32 >>> ((2 : Int32) &&& 31).toUInt32).toInt32) &&& (3 : Int32)) % (3 : Int32))), .val (.int l7), .val (.int l8), .val (.int (((p4.toUInt32 >>> ((10 : Int32) &&& 31).toUInt32).toInt32) &&& (3 : Int32))), .val (.ref b280), .unset, .unset] [(.int (1 : Int32)), (.int (((p4.toUInt32 >>> ((10 : Int32) &&& 31).toUInt32).toInt32) &&& (3 : Int32)))])) _
          refine XS.icmpYes X291.here hx rfl (pc0 := 189) (pc' := 211) rfl (hb hby at_189) rfl (feq hc189).2 (by decide) (by decide) ?_
          show Steps p.tables e below (T291.setTop (mkF m 211 #[.val (.int p0), .val (.int p1), .val (.int e2), .val (.int k2), .val (.int p4), .val (.int ((p4 &&& (3 : Int32)) % (3 : Int32))), .val (.int ((((p4.toUInt32 >>> ((2 : Int32) &&& 31).toUInt32).toInt32) &&& (3 : Int32)) % (3 : Int32))), .val (.int l7), .val (.int l8), .val (.int (((p4.toUInt32 >>> ((10 : Int32) &&& 31).toUInt32).toInt32) &&& (3 : Int32))), .val (.ref b280), .unset, .unset] [])) _
          refine XS.iload X291.here hx rfl (hb hby at_211) rfl ?_
          show Steps p.tables e below (T291.setTop (mkF m 213 #[.val (.int p0), .val (.int p1), .val (.int e2), .val (.int k2), .val (.int p4), .val (.int ((p4 &&& (3 : Int32)) % (3 : Int32))), .val (.int ((((p4.toUInt32 >>> ((2 : Int32) &&& 31).toUInt32).toInt32) &&& (3 : Int32)) % (3 : Int32))), .val (.int l7), .val (.int l8), .val (.int (((p4.toUInt32 >>> ((10 : Int32) &&& 31).toUInt32).toInt32) &&& (3 : Int32))), .val (.ref b280), .unset, .unset] [(.int (((p4.toUInt32 >>> ((10 : Int32) &&& 31).toUInt32).toInt32) &&& (3 : Int32)))])) _
          refine XS.iconst X291.here hx rfl (hb hby at_213) ?_
          exact k
        by_cases hc214 : (((p4.toUInt32 >>> ((10 : Int32) &&& 31).toUInt32).toInt32) &&& (3 : Int32)) = (2 : Int32)
        · have Q356 := (own_staKeep (own_staKeep Q284 i286_3 all0) i291_2 (allS (own_exaPlain Q288) all0))
          have pre357 : ∀ t, Steps p.tables e below (T291.setTop (mkF m 220 #[.val (.int p0), .val (.int p1), .val (.int e2), .val (.int k2), .val (.int p4), .val (.int ((p4 &&& (3 : Int32)) % (3 : Int32))), .val (.int ((((p4.toUInt32 >>> ((2 : Int32) &&& 31).toUInt32).toInt32) &&& (3 : Int32)) % (3 : Int32))), .val (.int l7), .val (.int l8), .val (.int (((p4.toUInt32 >>> ((10 : Int32) &&& 31).toUInt32).toInt32) &&& (3 : Int32))), .val (.ref b280), .unset, .unset] [(.int ((p4 &&& (3 : Int32)) % (3 : Int32))), (.int p0)])) t → Steps p.tables e below (s₁.setTop (entryFrame m #[(.int p0), (.int p1), (.int p2), (.int p3), (.int p4)] maxLocals)) t := fun t k => by
            refine pre355 _ ?_
            show Steps p.tables e below (T291.setTop (mkF m 214 #[.val (.int p0), .val (.int p1), .val (.int e2), .val (.int k2), .val (.int p4), .val (.int ((p4 &&& (3 : Int32)) % (3 : Int32))), .val (.int ((((p4.toUInt32 >>> ((2 : Int32) &&& 31).toUInt32).toInt32) &&& (3 : Int32)) % (3 : Int32))), .val (.int l7), .val (.int l8), .val (.int (((p4.toUInt32 >>> ((10 : Int32) &&& 31).toUInt32).toInt32) &&& (3 : Int32))), .val (.ref b280), .unset, .unset] [(.int (2 : Int32)), (.int (((p4.toUInt32 >>> ((10 : Int32) &&& 31).toUInt32).toInt32) &&& (3 : Int32)))])) _
            refine XS.icmpNo X291.here hx rfl (hb hby at_214) rfl (teq hc214).2 ?_
            show Steps p.tables e below (T291.setTop (mkF m 217 #[.val (.int p0), .val (.int p1), .val (.int e2), .val (.int k2), .val (.int p4), .val (.int ((p4 &&& (3 : Int32)) % (3 : Int32))), .val (.int ((((p4.toUInt32 >>> ((2 : Int32) &&& 31).toUInt32).toInt32) &&& (3 : Int32)) % (3 : Int32))), .val (.int l7), .val (.int l8), .val (.int (((p4.toUInt32 >>> ((10 : Int32) &&& 31).toUInt32).toInt32) &&& (3 : Int32))), .val (.ref b280), .unset, .unset] [])) _
            refine XS.iloadN X291.here hx rfl (hb hby at_217) rfl ?_
            show Steps p.tables e below (T291.setTop (mkF m 218 #[.val (.int p0), .val (.int p1), .val (.int e2), .val (.int k2), .val (.int p4), .val (.int ((p4 &&& (3 : Int32)) % (3 : Int32))), .val (.int ((((p4.toUInt32 >>> ((2 : Int32) &&& 31).toUInt32).toInt32) &&& (3 : Int32)) % (3 : Int32))), .val (.int l7), .val (.int l8), .val (.int (((p4.toUInt32 >>> ((10 : Int32) &&& 31).toUInt32).toInt32) &&& (3 : Int32))), .val (.ref b280), .unset, .unset] [(.int p0)])) _
            refine XS.iload X291.here hx rfl (hb hby at_218) rfl ?_
            exact k
          obtain ⟨_, _, ⟨T358, L358, k358, n358⟩, -, XC358, hSC358, hgC358, ⟨Lc358, hQ358, l358, y358, z358, CR358⟩, st358⟩ := callSS X291 hx (y := (⟨"com/example/postbag/postbag/broker/StoredBindingEqualsPinLaw", "mk", "(II)Ljava/lang/String;"⟩ : MethodName)) hown (mvT hZ (hw _ (List.mem_of_getElem? (i := 3) rfl))) (mvT hZ (hw _ (List.mem_of_getElem? (i := 4) rfl))) (mvT hZ (hw _ (List.mem_of_getElem? (i := 5) rfl))) (mvT hZ (hw _ (List.mem_of_getElem? (i := 6) rfl))) (by decide) (backOfSH (W := 0) (rmM l Z a0 hw [] p0 ((p4 &&& (3 : Int32)) % (3 : Int32)) cw T291.heap n0 (Nat.le_trans Z0 K291.1) Q356 hw0) hZ (hw _ (List.mem_of_getElem? (i := 6) rfl)) (hw _ (List.mem_of_getElem? (i := 5) rfl)) (by decide) (by decide) hEL CH291.1) (g := (mkF m 220 #[.val (.int p0), .val (.int p1), .val (.int e2), .val (.int k2), .val (.int p4), .val (.int ((p4 &&& (3 : Int32)) % (3 : Int32))), .val (.int ((((p4.toUInt32 >>> ((2 : Int32) &&& 31).toUInt32).toInt32) &&& (3 : Int32)) % (3 : Int32))), .val (.int l7), .val (.int l8), .val (.int (((p4.toUInt32 >>> ((10 : Int32) &&& 31).toUInt32).toInt32) &&& (3 : Int32))), .val (.ref b280), .unset, .unset] [(.int ((p4 &&& (3 : Int32)) % (3 : Int32))), (.int p0)])) rfl (by rw [hml]; rfl) (argsL := [(.int p0), (.int ((p4 &&& (3 : Int32)) % (3 : Int32)))]) (rest := []) (lenOf own_pd7 rfl) rfl (by show 2 * 0 + _ ≤ _; exact Nat.le_of_eq rfl) (hb hby at_220) (fun _ _ => ⟨rfl, rfl, (by decide : 13 + 6 ≤ _), (by decide : 26 + 12 ≤ _)⟩)
          dsimp only [Pt.U, Pt.locs, Pt.cells, Pt.slots] at XC358 l358 y358 z358 st358 hQ358 hSC358 hgC358 CR358
          subst l358 y358 z358
          obtain ⟨X358, hS, hZ, hown⟩ := rebS hS (n1 := T291.heap.size) hk XC358 hSC358 hgC358 hZ hown
          obtain ⟨r_358, rfl, N358q, i358_3, i358_4, i358_5⟩ := hQ358
          have N358 := Fr.app N291 N358q
          have ne_b280_r_358 : b280 ≠ r_358 := Nat.ne_of_lt (Nat.lt_of_lt_of_le i291_3.lt i358_4)
          have Q359 := ((i283_5.keep0 i286_3).keep1 i291_2 Q288 (hw _ (List.mem_of_getElem? (i := 1) rfl)) (by decide))
          have ne_r_283_r_358 : r_283 ≠ r_358 := Nat.ne_of_lt (Nat.lt_of_lt_of_le Q359.lt i358_4)
          have Q360 := (i286_5.keep1 i291_2 Q288 (hw _ (List.mem_of_getElem? (i := 1) rfl)) (by decide))
          have ne_r_286_r_358 : r_286 ≠ r_358 := Nat.ne_of_lt (Nat.lt_of_lt_of_le Q360.lt i358_4)
          have gg_r_358 : n0 ≤ r_358 := Nat.le_trans (Nat.le_trans Z0 K291.1) i358_4
          have sz_r_358 : h0.size ≤ r_358 := Nat.le_trans K291.1 i358_4
          have sf358_b280 := CHr.safe CR358 i291_3.lt sf291_b280
          have CH358 := CH291.trans CR358
          have hk := Nat.le_refl T358.heap.size
          have K358 := K291.trans i358_3 all0
          have Q362 := (i291_3.keep i358_3)
          obtain ⟨cq361, kq361, q361a, q361b, q361c⟩ := isOf hZ rfl Q362
          obtain ⟨_, _, ⟨T361, L361, k361, n361⟩, -, X361, ⟨Lc361, hQ361, l361, y361, z361⟩, st361⟩ := X358.virtualBack hx (y := (⟨"com/example/postbag/postbag/broker/StoredBinding", "equals", "(Ljava/lang/Object;)Z"⟩ : MethodName)) (z := (⟨"com/example/postbag/postbag/broker/StoredBinding", "equals", "(Ljava/lang/Object;)Z"⟩ : MethodName)) hown (mvT hZ (hw _ (List.mem_of_getElem? (i := 40) rfl))) (mvT hZ (hw _ (List.mem_of_getElem? (i := 41) rfl))) (notFace_of_selects (args := #[]) (mvT hZ (hw _ (List.mem_of_getElem? (i := 43) rfl)))) (mvT hZ (hw _ (List.mem_of_getElem? (i := 43) rfl))) (mvT hZ (hw _ (List.mem_of_getElem? (i := 42) rfl))) (by decide) (backOf (W := 0) (rmBE_t l Z a0 hw [] b280 r_358 T358.heap n0 (Nat.le_trans Z0 K358.1) i358_5.1) hZ (hw _ (List.mem_of_getElem? (i := 44) rfl)) (hw _ (List.mem_of_getElem? (i := 2) rfl)) (by decide) (by decide)) q361a q361c (g := (mkF m 229 #[.val (.int p0), .val (.int p1), .val (.int e2), .val (.int k2), .val (.int p4), .val (.int ((p4 &&& (3 : Int32)) % (3 : Int32))), .val (.int ((((p4.toUInt32 >>> ((2 : Int32) &&& 31).toUInt32).toInt32) &&& (3 : Int32)) % (3 : Int32))), .val (.int l7), .val (.int l8), .val (.int (((p4.toUInt32 >>> ((10 : Int32) &&& 31).toUInt32).toInt32) &&& (3 : Int32))), .val (.ref b280), .val (.ref r_358), .unset] [(.ref r_358), (.ref b280)])) rfl (by rw [hml]; rfl) (Steps.refl _) (argsL := [(.ref r_358)]) (rest := []) (lenOf own_pd6 rfl) rfl (by show 2 * 0 + _ ≤ _; exact Nat.le_of_eq rfl) (hb hby at_229) (fun _ _ => ⟨rfl, rfl, (by decide : 19 + 0 ≤ _), (by decide : 38 + 0 ≤ _)⟩)
          dsimp only [Pt.U, Pt.locs, Pt.cells, Pt.slots] at X361 l361 y361 z361 st361 hQ361
          subst l361 y361 z361
          obtain ⟨rfl, N361q, e361⟩ := hQ361
          have N361 := Fr.app N358 N361q
          obtain ⟨fs, hr, hrun, hended, hW, hsame⟩ := X361.leave (v := some (.int (1 : Int32))) (fun h => by rw [Bd.returns] at h; cases h)
          refine ⟨_, _, pre357 _ ?_, hrun, hended, _, _, rfl, ?_, (by show CHr Z own_EL s.vm s.heap T361.vm T361.heap; rw [hh, e361]; exact CH358.trans (CHv.at X361 hZ hEL CH358.1)), own_endW hS (by show _ ≤ T361.heap.size; rw [e361]; exact hk) hW (hsame.mono (by decide) (by decide))⟩
          · show Steps p.tables e below (T291.setTop (mkF m 220 #[.val (.int p0), .val (.int p1), .val (.int e2), .val (.int k2), .val (.int p4), .val (.int ((p4 &&& (3 : Int32)) % (3 : Int32))), .val (.int ((((p4.toUInt32 >>> ((2 : Int32) &&& 31).toUInt32).toInt32) &&& (3 : Int32)) % (3 : Int32))), .val (.int l7), .val (.int l8), .val (.int (((p4.toUInt32 >>> ((10 : Int32) &&& 31).toUInt32).toInt32) &&& (3 : Int32))), .val (.ref b280), .unset, .unset] [(.int ((p4 &&& (3 : Int32)) % (3 : Int32))), (.int p0)])) _
            refine st358.trans ?_
            show Steps p.tables e below (T358.setTop (mkF m 223 #[.val (.int p0), .val (.int p1), .val (.int e2), .val (.int k2), .val (.int p4), .val (.int ((p4 &&& (3 : Int32)) % (3 : Int32))), .val (.int ((((p4.toUInt32 >>> ((2 : Int32) &&& 31).toUInt32).toInt32) &&& (3 : Int32)) % (3 : Int32))), .val (.int l7), .val (.int l8), .val (.int (((p4.toUInt32 >>> ((10 : Int32) &&& 31).toUInt32).toInt32) &&& (3 : Int32))), .val (.ref b280), .unset, .unset] [(.ref r_358)])) _
            refine XS.astore X358.here hx rfl (hb hby at_223) rfl rfl (l' := #[.val (.int p0), .val (.int p1), .val (.int e2), .val (.int k2), .val (.int p4), .val (.int ((p4 &&& (3 : Int32)) % (3 : Int32))), .val (.int ((((p4.toUInt32 >>> ((2 : Int32) &&& 31).toUInt32).toInt32) &&& (3 : Int32)) % (3 : Int32))), .val (.int l7), .val (.int l8), .val (.int (((p4.toUInt32 >>> ((10 : Int32) &&& 31).toUInt32).toInt32) &&& (3 : Int32))), .val (.ref b280), .val (.ref r_358), .unset]) rfl ?_
            show Steps p.tables e below (T358.setTop (mkF m 225 #[.val (.int p0), .val (.int p1), .val (.int e2), .val (.int k2), .val (.int p4), .val (.int ((p4 &&& (3 : Int32)) % (3 : Int32))), .val (.int ((((p4.toUInt32 >>> ((2 : Int32) &&& 31).toUInt32).toInt32) &&& (3 : Int32)) % (3 : Int32))), .val (.int l7), .val (.int l8), .val (.int (((p4.toUInt32 >>> ((10 : Int32) &&& 31).toUInt32).toInt32) &&& (3 : Int32))), .val (.ref b280), .val (.ref r_358), .unset] [])) _
            refine XS.aload X358.here hx rfl (hb hby at_225) rfl rfl ?_
            show Steps p.tables e below (T358.setTop (mkF m 227 #[.val (.int p0), .val (.int p1), .val (.int e2), .val (.int k2), .val (.int p4), .val (.int ((p4 &&& (3 : Int32)) % (3 : Int32))), .val (.int ((((p4.toUInt32 >>> ((2 : Int32) &&& 31).toUInt32).toInt32) &&& (3 : Int32)) % (3 : Int32))), .val (.int l7), .val (.int l8), .val (.int (((p4.toUInt32 >>> ((10 : Int32) &&& 31).toUInt32).toInt32) &&& (3 : Int32))), .val (.ref b280), .val (.ref r_358), .unset] [(.ref b280)])) _
            refine XS.aload X358.here hx rfl (hb hby at_227) rfl rfl ?_
            show Steps p.tables e below (T358.setTop (mkF m 229 #[.val (.int p0), .val (.int p1), .val (.int e2), .val (.int k2), .val (.int p4), .val (.int ((p4 &&& (3 : Int32)) % (3 : Int32))), .val (.int ((((p4.toUInt32 >>> ((2 : Int32) &&& 31).toUInt32).toInt32) &&& (3 : Int32)) % (3 : Int32))), .val (.int l7), .val (.int l8), .val (.int (((p4.toUInt32 >>> ((10 : Int32) &&& 31).toUInt32).toInt32) &&& (3 : Int32))), .val (.ref b280), .val (.ref r_358), .unset] [(.ref r_358), (.ref b280)])) _
            refine st361.trans ?_
            show Steps p.tables e below (T361.setTop (mkF m 232 #[.val (.int p0), .val (.int p1), .val (.int e2), .val (.int k2), .val (.int p4), .val (.int ((p4 &&& (3 : Int32)) % (3 : Int32))), .val (.int ((((p4.toUInt32 >>> ((2 : Int32) &&& 31).toUInt32).toInt32) &&& (3 : Int32)) % (3 : Int32))), .val (.int l7), .val (.int l8), .val (.int (((p4.toUInt32 >>> ((10 : Int32) &&& 31).toUInt32).toInt32) &&& (3 : Int32))), .val (.ref b280), .val (.ref r_358), .unset] [(.int (0 : Int32))])) _
            refine XS.ifNo X361.here hx rfl (hb hby at_232) rfl ((if0 _ _).trans (teq (by decide : ((0 : Int32) = (0 : Int32)))).2) ?_
            show Steps p.tables e below (T361.setTop (mkF m 235 #[.val (.int p0), .val (.int p1), .val (.int e2), .val (.int k2), .val (.int p4), .val (.int ((p4 &&& (3 : Int32)) % (3 : Int32))), .val (.int ((((p4.toUInt32 >>> ((2 : Int32) &&& 31).toUInt32).toInt32) &&& (3 : Int32)) % (3 : Int32))), .val (.int l7), .val (.int l8), .val (.int (((p4.toUInt32 >>> ((10 : Int32) &&& 31).toUInt32).toInt32) &&& (3 : Int32))), .val (.ref b280), .val (.ref r_358), .unset] [])) _
            refine XS.iconst X361.here hx rfl (hb hby at_235) ?_
            show Steps p.tables e below (T361.setTop (mkF m 236 #[.val (.int p0), .val (.int p1), .val (.int e2), .val (.int k2), .val (.int p4), .val (.int ((p4 &&& (3 : Int32)) % (3 : Int32))), .val (.int ((((p4.toUInt32 >>> ((2 : Int32) &&& 31).toUInt32).toInt32) &&& (3 : Int32)) % (3 : Int32))), .val (.int l7), .val (.int l8), .val (.int (((p4.toUInt32 >>> ((10 : Int32) &&& 31).toUInt32).toInt32) &&& (3 : Int32))), .val (.ref b280), .val (.ref r_358), .unset] [(.int (1 : Int32))])) _
            refine XS.goto X361.here hx rfl (pc0 := 236) (pc' := 240) rfl (hb hby at_236) (by decide) (by decide) ?_
            show Steps p.tables e below (T361.setTop (mkF m 240 #[.val (.int p0), .val (.int p1), .val (.int e2), .val (.int k2), .val (.int p4), .val (.int ((p4 &&& (3 : Int32)) % (3 : Int32))), .val (.int ((((p4.toUInt32 >>> ((2 : Int32) &&& 31).toUInt32).toInt32) &&& (3 : Int32)) % (3 : Int32))), .val (.int l7), .val (.int l8), .val (.int (((p4.toUInt32 >>> ((10 : Int32) &&& 31).toUInt32).toInt32) &&& (3 : Int32))), .val (.ref b280), .val (.ref r_358), .unset] [(.int (1 : Int32))])) _
            exact retN X361 hx (t := .boolean) Bd.returns (by simp) (hb hby at_240) hr
          · show Q0 Z p0 p1 p2 p3 p4 cw h0 n0 _ T361.heap _
            rw [e361]
            exact ⟨rfl, N361⟩
        · have Q363 := ((i283_5.1.keep i286_3).keep i291_2)
          have Q364 := (i286_5.1.keep i291_2)
          obtain ⟨cq365, kq365, q365a, q365b, q365c⟩ := isOf hZ rfl i291_3
          obtain ⟨_, _, ⟨T365, L365, k365, n365⟩, -, X365, ⟨Lc365, hQ365, l365, y365, z365⟩, st365⟩ := X291.virtualBack hx (y := (⟨"com/example/postbag/postbag/broker/StoredBinding", "equals", "(Ljava/lang/Object;)Z"⟩ : MethodName)) (z := (⟨"com/example/postbag/postbag/broker/StoredBinding", "equals", "(Ljava/lang/Object;)Z"⟩ : MethodName)) hown (mvT hZ (hw _ (List.mem_of_getElem? (i := 40) rfl))) (mvT hZ (hw _ (List.mem_of_getElem? (i := 41) rfl))) (notFace_of_selects (args := #[]) (mvT hZ (hw _ (List.mem_of_getElem? (i := 43) rfl)))) (mvT hZ (hw _ (List.mem_of_getElem? (i := 43) rfl))) (mvT hZ (hw _ (List.mem_of_getElem? (i := 42) rfl))) (by decide) (backOf (W := 0) (rmBE_s l Z a0 hw [] b280 r_283 r_286 T291.heap n0 (Nat.le_trans Z0 K291.1) i291_3 i291_4 i291_5 Q363 Q364) hZ (hw _ (List.mem_of_getElem? (i := 44) rfl)) (hw _ (List.mem_of_getElem? (i := 2) rfl)) (by decide) (by decide)) q365a q365c (g := (mkF m 245 #[.val (.int p0), .val (.int p1), .val (.int e2), .val (.int k2), .val (.int p4), .val (.int ((p4 &&& (3 : Int32)) % (3 : Int32))), .val (.int ((((p4.toUInt32 >>> ((2 : Int32) &&& 31).toUInt32).toInt32) &&& (3 : Int32)) % (3 : Int32))), .val (.int l7), .val (.int l8), .val (.int (((p4.toUInt32 >>> ((10 : Int32) &&& 31).toUInt32).toInt32) &&& (3 : Int32))), .val (.ref b280), .unset, .unset] [(.ref b280), (.ref b280)])) rfl (by rw [hml]; rfl) (Steps.refl _) (argsL := [(.ref b280)]) (rest := []) (lenOf own_pd6 rfl) rfl (by show 2 * 0 + _ ≤ _; exact Nat.le_of_eq rfl) (hb hby at_245) (fun _ _ => ⟨rfl, rfl, (by decide : 13 + 0 ≤ _), (by decide : 26 + 0 ≤ _)⟩)
          dsimp only [Pt.U, Pt.locs, Pt.cells, Pt.slots] at X365 l365 y365 z365 st365 hQ365
          subst l365 y365 z365
          obtain ⟨rfl, N365q, e365⟩ := hQ365
          have N365 := Fr.app N291 N365q
          obtain ⟨fs, hr, hrun, hended, hW, hsame⟩ := X365.leave (v := some (.int (1 : Int32))) (fun h => by rw [Bd.returns] at h; cases h)
          refine ⟨_, _, pre355 _ ?_, hrun, hended, _, _, rfl, ?_, (by show CHr Z own_EL s.vm s.heap T365.vm T365.heap; rw [hh, e365]; exact CH291.trans (CHv.at X365 hZ hEL CH291.1)), own_endW hS (by show _ ≤ T365.heap.size; rw [e365]; exact hk) hW (hsame.mono (by decide) (by decide))⟩
          · show Steps p.tables e below (T291.setTop (mkF m 214 #[.val (.int p0), .val (.int p1), .val (.int e2), .val (.int k2), .val (.int p4), .val (.int ((p4 &&& (3 : Int32)) % (3 : Int32))), .val (.int ((((p4.toUInt32 >>> ((2 : Int32) &&& 31).toUInt32).toInt32) &&& (3 : Int32)) % (3 : Int32))), .val (.int l7), .val (.int l8), .val (.int (((p4.toUInt32 >>> ((10 : Int32) &&& 31).toUInt32).toInt32) &&& (3 : Int32))), .val (.ref b280), .unset, .unset] [(.int (2 : Int32)), (.int (((p4.toUInt32 >>> ((10 : Int32) &&& 31).toUInt32).toInt32) &&& (3 : Int32)))])) _
            refine XS.icmpYes X291.here hx rfl (pc0 := 214) (pc' := 241) rfl (hb hby at_214) rfl (feq hc214).2 (by decide) (by decide) ?_
            show Steps p.tables e below (T291.setTop (mkF m 241 #[.val (.int p0), .val (.int p1), .val (.int e2), .val (.int k2), .val (.int p4), .val (.int ((p4 &&& (3 : Int32)) % (3 : Int32))), .val (.int ((((p4.toUInt32 >>> ((2 : Int32) &&& 31).toUInt32).toInt32) &&& (3 : Int32)) % (3 : Int32))), .val (.int l7), .val (.int l8), .val (.int (((p4.toUInt32 >>> ((10 : Int32) &&& 31).toUInt32).toInt32) &&& (3 : Int32))), .val (.ref b280), .unset, .unset] [])) _
            refine XS.aload X291.here hx rfl (hb hby at_241) rfl rfl ?_
            show Steps p.tables e below (T291.setTop (mkF m 243 #[.val (.int p0), .val (.int p1), .val (.int e2), .val (.int k2), .val (.int p4), .val (.int ((p4 &&& (3 : Int32)) % (3 : Int32))), .val (.int ((((p4.toUInt32 >>> ((2 : Int32) &&& 31).toUInt32).toInt32) &&& (3 : Int32)) % (3 : Int32))), .val (.int l7), .val (.int l8), .val (.int (((p4.toUInt32 >>> ((10 : Int32) &&& 31).toUInt32).toInt32) &&& (3 : Int32))), .val (.ref b280), .unset, .unset] [(.ref b280)])) _
            refine XS.aload X291.here hx rfl (hb hby at_243) rfl rfl ?_
            show Steps p.tables e below (T291.setTop (mkF m 245 #[.val (.int p0), .val (.int p1), .val (.int e2), .val (.int k2), .val (.int p4), .val (.int ((p4 &&& (3 : Int32)) % (3 : Int32))), .val (.int ((((p4.toUInt32 >>> ((2 : Int32) &&& 31).toUInt32).toInt32) &&& (3 : Int32)) % (3 : Int32))), .val (.int l7), .val (.int l8), .val (.int (((p4.toUInt32 >>> ((10 : Int32) &&& 31).toUInt32).toInt32) &&& (3 : Int32))), .val (.ref b280), .unset, .unset] [(.ref b280), (.ref b280)])) _
            refine st365.trans ?_
            show Steps p.tables e below (T365.setTop (mkF m 248 #[.val (.int p0), .val (.int p1), .val (.int e2), .val (.int k2), .val (.int p4), .val (.int ((p4 &&& (3 : Int32)) % (3 : Int32))), .val (.int ((((p4.toUInt32 >>> ((2 : Int32) &&& 31).toUInt32).toInt32) &&& (3 : Int32)) % (3 : Int32))), .val (.int l7), .val (.int l8), .val (.int (((p4.toUInt32 >>> ((10 : Int32) &&& 31).toUInt32).toInt32) &&& (3 : Int32))), .val (.ref b280), .unset, .unset] [(.int (1 : Int32))])) _
            exact retN X365 hx (t := .boolean) Bd.returns (by simp) (hb hby at_248) hr
          · show Q0 Z p0 p1 p2 p3 p4 cw h0 n0 _ T365.heap _
            rw [e365]
            exact ⟨rfl, N365⟩
  · have pre273 : ∀ t, Steps p.tables e below (s₁.setTop (mkF m 45 #[.val (.int p0), .val (.int p1), .val (.int p2), .val (.int p3), .val (.int p4), .val (.int ((p4 &&& (3 : Int32)) % (3 : Int32))), .val (.int ((((p4.toUInt32 >>> ((2 : Int32) &&& 31).toUInt32).toInt32) &&& (3 : Int32)) % (3 : Int32))), .val (.int ((((p4.toUInt32 >>> ((4 : Int32) &&& 31).toUInt32).toInt32) &&& (3 : Int32)) % (3 : Int32))), .val (.int ((((p4.toUInt32 >>> ((6 : Int32) &&& 31).toUInt32).toInt32) &&& (3 : Int32)) % (3 : Int32))), .unset, .unset, .unset, .unset] [(.int (p4 &&& (256 : Int32)))])) t → Steps p.tables e below (s₁.setTop (entryFrame m #[(.int p0), (.int p1), (.int p2), (.int p3), (.int p4)] maxLocals)) t := fun t k => by
      refine pre0 _ ?_
      show Steps p.tables e below (s₁.setTop (mkF m 0 #[.val (.int p0), .val (.int p1), .val (.int p2), .val (.int p3), .val (.int p4), .unset, .unset, .unset, .unset, .unset, .unset, .unset, .unset] [])) _
      refine XS.iload X0.here hx rfl (hb hby at_0) rfl ?_
      show Steps p.tables e below (s₁.setTop (mkF m 2 #[.val (.int p0), .val (.int p1), .val (.int p2), .val (.int p3), .val (.int p4), .unset, .unset, .unset, .unset, .unset, .unset, .unset, .unset] [(.int p4)])) _
      refine XS.iconst X0.here hx rfl (hb hby at_2) ?_
      show Steps p.tables e below (s₁.setTop (mkF m 3 #[.val (.int p0), .val (.int p1), .val (.int p2), .val (.int p3), .val (.int p4), .unset, .unset, .unset, .unset, .unset, .unset, .unset, .unset] [(.int (3 : Int32)), (.int p4)])) _
      refine XS.iand X0.here hx rfl (hb hby at_3) rfl ?_
      show Steps p.tables e below (s₁.setTop (mkF m 4 #[.val (.int p0), .val (.int p1), .val (.int p2), .val (.int p3), .val (.int p4), .unset, .unset, .unset, .unset, .unset, .unset, .unset, .unset] [(.int (p4 &&& (3 : Int32)))])) _
      refine XS.iconst X0.here hx rfl (hb hby at_4) ?_
      show Steps p.tables e below (s₁.setTop (mkF m 5 #[.val (.int p0), .val (.int p1), .val (.int p2), .val (.int p3), .val (.int p4), .unset, .unset, .unset, .unset, .unset, .unset, .unset, .unset] [(.int (3 : Int32)), (.int (p4 &&& (3 : Int32)))])) _
      refine iremM (g := (mkF m 5 #[.val (.int p0), .val (.int p1), .val (.int p2), .val (.int p3), .val (.int p4), .unset, .unset, .unset, .unset, .unset, .unset, .unset, .unset] [(.int (3 : Int32)), (.int (p4 &&& (3 : Int32)))])) X0 hx rfl (hb hby at_5) rfl (by decide) ?_
      show Steps p.tables e below (s₁.setTop (mkF m 6 #[.val (.int p0), .val (.int p1), .val (.int p2), .val (.int p3), .val (.int p4), .unset, .unset, .unset, .unset, .unset, .unset, .unset, .unset] [(.int ((p4 &&& (3 : Int32)) % (3 : Int32)))])) _
      refine XS.istore X0.here hx rfl (hb hby at_6) rfl (l' := #[.val (.int p0), .val (.int p1), .val (.int p2), .val (.int p3), .val (.int p4), .val (.int ((p4 &&& (3 : Int32)) % (3 : Int32))), .unset, .unset, .unset, .unset, .unset, .unset, .unset]) rfl ?_
      show Steps p.tables e below (s₁.setTop (mkF m 8 #[.val (.int p0), .val (.int p1), .val (.int p2), .val (.int p3), .val (.int p4), .val (.int ((p4 &&& (3 : Int32)) % (3 : Int32))), .unset, .unset, .unset, .unset, .unset, .unset, .unset] [])) _
      refine XS.iload X0.here hx rfl (hb hby at_8) rfl ?_
      show Steps p.tables e below (s₁.setTop (mkF m 10 #[.val (.int p0), .val (.int p1), .val (.int p2), .val (.int p3), .val (.int p4), .val (.int ((p4 &&& (3 : Int32)) % (3 : Int32))), .unset, .unset, .unset, .unset, .unset, .unset, .unset] [(.int p4)])) _
      refine XS.iconst X0.here hx rfl (hb hby at_10) ?_
      show Steps p.tables e below (s₁.setTop (mkF m 11 #[.val (.int p0), .val (.int p1), .val (.int p2), .val (.int p3), .val (.int p4), .val (.int ((p4 &&& (3 : Int32)) % (3 : Int32))), .unset, .unset, .unset, .unset, .unset, .unset, .unset] [(.int (2 : Int32)), (.int p4)])) _
      refine XS.iushr X0.here hx rfl (hb hby at_11) rfl ?_
      show Steps p.tables e below (s₁.setTop (mkF m 12 #[.val (.int p0), .val (.int p1), .val (.int p2), .val (.int p3), .val (.int p4), .val (.int ((p4 &&& (3 : Int32)) % (3 : Int32))), .unset, .unset, .unset, .unset, .unset, .unset, .unset] [(.int ((p4.toUInt32 >>> ((2 : Int32) &&& 31).toUInt32).toInt32))])) _
      refine XS.iconst X0.here hx rfl (hb hby at_12) ?_
      show Steps p.tables e below (s₁.setTop (mkF m 13 #[.val (.int p0), .val (.int p1), .val (.int p2), .val (.int p3), .val (.int p4), .val (.int ((p4 &&& (3 : Int32)) % (3 : Int32))), .unset, .unset, .unset, .unset, .unset, .unset, .unset] [(.int (3 : Int32)), (.int ((p4.toUInt32 >>> ((2 : Int32) &&& 31).toUInt32).toInt32))])) _
      refine XS.iand X0.here hx rfl (hb hby at_13) rfl ?_
      show Steps p.tables e below (s₁.setTop (mkF m 14 #[.val (.int p0), .val (.int p1), .val (.int p2), .val (.int p3), .val (.int p4), .val (.int ((p4 &&& (3 : Int32)) % (3 : Int32))), .unset, .unset, .unset, .unset, .unset, .unset, .unset] [(.int (((p4.toUInt32 >>> ((2 : Int32) &&& 31).toUInt32).toInt32) &&& (3 : Int32)))])) _
      refine XS.iconst X0.here hx rfl (hb hby at_14) ?_
      show Steps p.tables e below (s₁.setTop (mkF m 15 #[.val (.int p0), .val (.int p1), .val (.int p2), .val (.int p3), .val (.int p4), .val (.int ((p4 &&& (3 : Int32)) % (3 : Int32))), .unset, .unset, .unset, .unset, .unset, .unset, .unset] [(.int (3 : Int32)), (.int (((p4.toUInt32 >>> ((2 : Int32) &&& 31).toUInt32).toInt32) &&& (3 : Int32)))])) _
      refine iremM (g := (mkF m 15 #[.val (.int p0), .val (.int p1), .val (.int p2), .val (.int p3), .val (.int p4), .val (.int ((p4 &&& (3 : Int32)) % (3 : Int32))), .unset, .unset, .unset, .unset, .unset, .unset, .unset] [(.int (3 : Int32)), (.int (((p4.toUInt32 >>> ((2 : Int32) &&& 31).toUInt32).toInt32) &&& (3 : Int32)))])) X0 hx rfl (hb hby at_15) rfl (by decide) ?_
      show Steps p.tables e below (s₁.setTop (mkF m 16 #[.val (.int p0), .val (.int p1), .val (.int p2), .val (.int p3), .val (.int p4), .val (.int ((p4 &&& (3 : Int32)) % (3 : Int32))), .unset, .unset, .unset, .unset, .unset, .unset, .unset] [(.int ((((p4.toUInt32 >>> ((2 : Int32) &&& 31).toUInt32).toInt32) &&& (3 : Int32)) % (3 : Int32)))])) _
      refine XS.istore X0.here hx rfl (hb hby at_16) rfl (l' := #[.val (.int p0), .val (.int p1), .val (.int p2), .val (.int p3), .val (.int p4), .val (.int ((p4 &&& (3 : Int32)) % (3 : Int32))), .val (.int ((((p4.toUInt32 >>> ((2 : Int32) &&& 31).toUInt32).toInt32) &&& (3 : Int32)) % (3 : Int32))), .unset, .unset, .unset, .unset, .unset, .unset]) rfl ?_
      show Steps p.tables e below (s₁.setTop (mkF m 18 #[.val (.int p0), .val (.int p1), .val (.int p2), .val (.int p3), .val (.int p4), .val (.int ((p4 &&& (3 : Int32)) % (3 : Int32))), .val (.int ((((p4.toUInt32 >>> ((2 : Int32) &&& 31).toUInt32).toInt32) &&& (3 : Int32)) % (3 : Int32))), .unset, .unset, .unset, .unset, .unset, .unset] [])) _
      refine XS.iload X0.here hx rfl (hb hby at_18) rfl ?_
      show Steps p.tables e below (s₁.setTop (mkF m 20 #[.val (.int p0), .val (.int p1), .val (.int p2), .val (.int p3), .val (.int p4), .val (.int ((p4 &&& (3 : Int32)) % (3 : Int32))), .val (.int ((((p4.toUInt32 >>> ((2 : Int32) &&& 31).toUInt32).toInt32) &&& (3 : Int32)) % (3 : Int32))), .unset, .unset, .unset, .unset, .unset, .unset] [(.int p4)])) _
      refine XS.iconst X0.here hx rfl (hb hby at_20) ?_
      show Steps p.tables e below (s₁.setTop (mkF m 21 #[.val (.int p0), .val (.int p1), .val (.int p2), .val (.int p3), .val (.int p4), .val (.int ((p4 &&& (3 : Int32)) % (3 : Int32))), .val (.int ((((p4.toUInt32 >>> ((2 : Int32) &&& 31).toUInt32).toInt32) &&& (3 : Int32)) % (3 : Int32))), .unset, .unset, .unset, .unset, .unset, .unset] [(.int (4 : Int32)), (.int p4)])) _
      refine XS.iushr X0.here hx rfl (hb hby at_21) rfl ?_
      show Steps p.tables e below (s₁.setTop (mkF m 22 #[.val (.int p0), .val (.int p1), .val (.int p2), .val (.int p3), .val (.int p4), .val (.int ((p4 &&& (3 : Int32)) % (3 : Int32))), .val (.int ((((p4.toUInt32 >>> ((2 : Int32) &&& 31).toUInt32).toInt32) &&& (3 : Int32)) % (3 : Int32))), .unset, .unset, .unset, .unset, .unset, .unset] [(.int ((p4.toUInt32 >>> ((4 : Int32) &&& 31).toUInt32).toInt32))])) _
      refine XS.iconst X0.here hx rfl (hb hby at_22) ?_
      show Steps p.tables e below (s₁.setTop (mkF m 23 #[.val (.int p0), .val (.int p1), .val (.int p2), .val (.int p3), .val (.int p4), .val (.int ((p4 &&& (3 : Int32)) % (3 : Int32))), .val (.int ((((p4.toUInt32 >>> ((2 : Int32) &&& 31).toUInt32).toInt32) &&& (3 : Int32)) % (3 : Int32))), .unset, .unset, .unset, .unset, .unset, .unset] [(.int (3 : Int32)), (.int ((p4.toUInt32 >>> ((4 : Int32) &&& 31).toUInt32).toInt32))])) _
      refine XS.iand X0.here hx rfl (hb hby at_23) rfl ?_
      show Steps p.tables e below (s₁.setTop (mkF m 24 #[.val (.int p0), .val (.int p1), .val (.int p2), .val (.int p3), .val (.int p4), .val (.int ((p4 &&& (3 : Int32)) % (3 : Int32))), .val (.int ((((p4.toUInt32 >>> ((2 : Int32) &&& 31).toUInt32).toInt32) &&& (3 : Int32)) % (3 : Int32))), .unset, .unset, .unset, .unset, .unset, .unset] [(.int (((p4.toUInt32 >>> ((4 : Int32) &&& 31).toUInt32).toInt32) &&& (3 : Int32)))])) _
      refine XS.iconst X0.here hx rfl (hb hby at_24) ?_
      show Steps p.tables e below (s₁.setTop (mkF m 25 #[.val (.int p0), .val (.int p1), .val (.int p2), .val (.int p3), .val (.int p4), .val (.int ((p4 &&& (3 : Int32)) % (3 : Int32))), .val (.int ((((p4.toUInt32 >>> ((2 : Int32) &&& 31).toUInt32).toInt32) &&& (3 : Int32)) % (3 : Int32))), .unset, .unset, .unset, .unset, .unset, .unset] [(.int (3 : Int32)), (.int (((p4.toUInt32 >>> ((4 : Int32) &&& 31).toUInt32).toInt32) &&& (3 : Int32)))])) _
      refine iremM (g := (mkF m 25 #[.val (.int p0), .val (.int p1), .val (.int p2), .val (.int p3), .val (.int p4), .val (.int ((p4 &&& (3 : Int32)) % (3 : Int32))), .val (.int ((((p4.toUInt32 >>> ((2 : Int32) &&& 31).toUInt32).toInt32) &&& (3 : Int32)) % (3 : Int32))), .unset, .unset, .unset, .unset, .unset, .unset] [(.int (3 : Int32)), (.int (((p4.toUInt32 >>> ((4 : Int32) &&& 31).toUInt32).toInt32) &&& (3 : Int32)))])) X0 hx rfl (hb hby at_25) rfl (by decide) ?_
      show Steps p.tables e below (s₁.setTop (mkF m 26 #[.val (.int p0), .val (.int p1), .val (.int p2), .val (.int p3), .val (.int p4), .val (.int ((p4 &&& (3 : Int32)) % (3 : Int32))), .val (.int ((((p4.toUInt32 >>> ((2 : Int32) &&& 31).toUInt32).toInt32) &&& (3 : Int32)) % (3 : Int32))), .unset, .unset, .unset, .unset, .unset, .unset] [(.int ((((p4.toUInt32 >>> ((4 : Int32) &&& 31).toUInt32).toInt32) &&& (3 : Int32)) % (3 : Int32)))])) _
      refine XS.istore X0.here hx rfl (hb hby at_26) rfl (l' := #[.val (.int p0), .val (.int p1), .val (.int p2), .val (.int p3), .val (.int p4), .val (.int ((p4 &&& (3 : Int32)) % (3 : Int32))), .val (.int ((((p4.toUInt32 >>> ((2 : Int32) &&& 31).toUInt32).toInt32) &&& (3 : Int32)) % (3 : Int32))), .val (.int ((((p4.toUInt32 >>> ((4 : Int32) &&& 31).toUInt32).toInt32) &&& (3 : Int32)) % (3 : Int32))), .unset, .unset, .unset, .unset, .unset]) rfl ?_
      show Steps p.tables e below (s₁.setTop (mkF m 28 #[.val (.int p0), .val (.int p1), .val (.int p2), .val (.int p3), .val (.int p4), .val (.int ((p4 &&& (3 : Int32)) % (3 : Int32))), .val (.int ((((p4.toUInt32 >>> ((2 : Int32) &&& 31).toUInt32).toInt32) &&& (3 : Int32)) % (3 : Int32))), .val (.int ((((p4.toUInt32 >>> ((4 : Int32) &&& 31).toUInt32).toInt32) &&& (3 : Int32)) % (3 : Int32))), .unset, .unset, .unset, .unset, .unset] [])) _
      refine XS.iload X0.here hx rfl (hb hby at_28) rfl ?_
      show Steps p.tables e below (s₁.setTop (mkF m 30 #[.val (.int p0), .val (.int p1), .val (.int p2), .val (.int p3), .val (.int p4), .val (.int ((p4 &&& (3 : Int32)) % (3 : Int32))), .val (.int ((((p4.toUInt32 >>> ((2 : Int32) &&& 31).toUInt32).toInt32) &&& (3 : Int32)) % (3 : Int32))), .val (.int ((((p4.toUInt32 >>> ((4 : Int32) &&& 31).toUInt32).toInt32) &&& (3 : Int32)) % (3 : Int32))), .unset, .unset, .unset, .unset, .unset] [(.int p4)])) _
      refine XS.bipush X0.here hx rfl (hb hby at_30) ?_
      show Steps p.tables e below (s₁.setTop (mkF m 32 #[.val (.int p0), .val (.int p1), .val (.int p2), .val (.int p3), .val (.int p4), .val (.int ((p4 &&& (3 : Int32)) % (3 : Int32))), .val (.int ((((p4.toUInt32 >>> ((2 : Int32) &&& 31).toUInt32).toInt32) &&& (3 : Int32)) % (3 : Int32))), .val (.int ((((p4.toUInt32 >>> ((4 : Int32) &&& 31).toUInt32).toInt32) &&& (3 : Int32)) % (3 : Int32))), .unset, .unset, .unset, .unset, .unset] [(.int (6 : Int32)), (.int p4)])) _
      refine XS.iushr X0.here hx rfl (hb hby at_32) rfl ?_
      show Steps p.tables e below (s₁.setTop (mkF m 33 #[.val (.int p0), .val (.int p1), .val (.int p2), .val (.int p3), .val (.int p4), .val (.int ((p4 &&& (3 : Int32)) % (3 : Int32))), .val (.int ((((p4.toUInt32 >>> ((2 : Int32) &&& 31).toUInt32).toInt32) &&& (3 : Int32)) % (3 : Int32))), .val (.int ((((p4.toUInt32 >>> ((4 : Int32) &&& 31).toUInt32).toInt32) &&& (3 : Int32)) % (3 : Int32))), .unset, .unset, .unset, .unset, .unset] [(.int ((p4.toUInt32 >>> ((6 : Int32) &&& 31).toUInt32).toInt32))])) _
      refine XS.iconst X0.here hx rfl (hb hby at_33) ?_
      show Steps p.tables e below (s₁.setTop (mkF m 34 #[.val (.int p0), .val (.int p1), .val (.int p2), .val (.int p3), .val (.int p4), .val (.int ((p4 &&& (3 : Int32)) % (3 : Int32))), .val (.int ((((p4.toUInt32 >>> ((2 : Int32) &&& 31).toUInt32).toInt32) &&& (3 : Int32)) % (3 : Int32))), .val (.int ((((p4.toUInt32 >>> ((4 : Int32) &&& 31).toUInt32).toInt32) &&& (3 : Int32)) % (3 : Int32))), .unset, .unset, .unset, .unset, .unset] [(.int (3 : Int32)), (.int ((p4.toUInt32 >>> ((6 : Int32) &&& 31).toUInt32).toInt32))])) _
      refine XS.iand X0.here hx rfl (hb hby at_34) rfl ?_
      show Steps p.tables e below (s₁.setTop (mkF m 35 #[.val (.int p0), .val (.int p1), .val (.int p2), .val (.int p3), .val (.int p4), .val (.int ((p4 &&& (3 : Int32)) % (3 : Int32))), .val (.int ((((p4.toUInt32 >>> ((2 : Int32) &&& 31).toUInt32).toInt32) &&& (3 : Int32)) % (3 : Int32))), .val (.int ((((p4.toUInt32 >>> ((4 : Int32) &&& 31).toUInt32).toInt32) &&& (3 : Int32)) % (3 : Int32))), .unset, .unset, .unset, .unset, .unset] [(.int (((p4.toUInt32 >>> ((6 : Int32) &&& 31).toUInt32).toInt32) &&& (3 : Int32)))])) _
      refine XS.iconst X0.here hx rfl (hb hby at_35) ?_
      show Steps p.tables e below (s₁.setTop (mkF m 36 #[.val (.int p0), .val (.int p1), .val (.int p2), .val (.int p3), .val (.int p4), .val (.int ((p4 &&& (3 : Int32)) % (3 : Int32))), .val (.int ((((p4.toUInt32 >>> ((2 : Int32) &&& 31).toUInt32).toInt32) &&& (3 : Int32)) % (3 : Int32))), .val (.int ((((p4.toUInt32 >>> ((4 : Int32) &&& 31).toUInt32).toInt32) &&& (3 : Int32)) % (3 : Int32))), .unset, .unset, .unset, .unset, .unset] [(.int (3 : Int32)), (.int (((p4.toUInt32 >>> ((6 : Int32) &&& 31).toUInt32).toInt32) &&& (3 : Int32)))])) _
      refine iremM (g := (mkF m 36 #[.val (.int p0), .val (.int p1), .val (.int p2), .val (.int p3), .val (.int p4), .val (.int ((p4 &&& (3 : Int32)) % (3 : Int32))), .val (.int ((((p4.toUInt32 >>> ((2 : Int32) &&& 31).toUInt32).toInt32) &&& (3 : Int32)) % (3 : Int32))), .val (.int ((((p4.toUInt32 >>> ((4 : Int32) &&& 31).toUInt32).toInt32) &&& (3 : Int32)) % (3 : Int32))), .unset, .unset, .unset, .unset, .unset] [(.int (3 : Int32)), (.int (((p4.toUInt32 >>> ((6 : Int32) &&& 31).toUInt32).toInt32) &&& (3 : Int32)))])) X0 hx rfl (hb hby at_36) rfl (by decide) ?_
      show Steps p.tables e below (s₁.setTop (mkF m 37 #[.val (.int p0), .val (.int p1), .val (.int p2), .val (.int p3), .val (.int p4), .val (.int ((p4 &&& (3 : Int32)) % (3 : Int32))), .val (.int ((((p4.toUInt32 >>> ((2 : Int32) &&& 31).toUInt32).toInt32) &&& (3 : Int32)) % (3 : Int32))), .val (.int ((((p4.toUInt32 >>> ((4 : Int32) &&& 31).toUInt32).toInt32) &&& (3 : Int32)) % (3 : Int32))), .unset, .unset, .unset, .unset, .unset] [(.int ((((p4.toUInt32 >>> ((6 : Int32) &&& 31).toUInt32).toInt32) &&& (3 : Int32)) % (3 : Int32)))])) _
      refine XS.istore X0.here hx rfl (hb hby at_37) rfl (l' := #[.val (.int p0), .val (.int p1), .val (.int p2), .val (.int p3), .val (.int p4), .val (.int ((p4 &&& (3 : Int32)) % (3 : Int32))), .val (.int ((((p4.toUInt32 >>> ((2 : Int32) &&& 31).toUInt32).toInt32) &&& (3 : Int32)) % (3 : Int32))), .val (.int ((((p4.toUInt32 >>> ((4 : Int32) &&& 31).toUInt32).toInt32) &&& (3 : Int32)) % (3 : Int32))), .val (.int ((((p4.toUInt32 >>> ((6 : Int32) &&& 31).toUInt32).toInt32) &&& (3 : Int32)) % (3 : Int32))), .unset, .unset, .unset, .unset]) rfl ?_
      show Steps p.tables e below (s₁.setTop (mkF m 39 #[.val (.int p0), .val (.int p1), .val (.int p2), .val (.int p3), .val (.int p4), .val (.int ((p4 &&& (3 : Int32)) % (3 : Int32))), .val (.int ((((p4.toUInt32 >>> ((2 : Int32) &&& 31).toUInt32).toInt32) &&& (3 : Int32)) % (3 : Int32))), .val (.int ((((p4.toUInt32 >>> ((4 : Int32) &&& 31).toUInt32).toInt32) &&& (3 : Int32)) % (3 : Int32))), .val (.int ((((p4.toUInt32 >>> ((6 : Int32) &&& 31).toUInt32).toInt32) &&& (3 : Int32)) % (3 : Int32))), .unset, .unset, .unset, .unset] [])) _
      refine XS.iload X0.here hx rfl (hb hby at_39) rfl ?_
      show Steps p.tables e below (s₁.setTop (mkF m 41 #[.val (.int p0), .val (.int p1), .val (.int p2), .val (.int p3), .val (.int p4), .val (.int ((p4 &&& (3 : Int32)) % (3 : Int32))), .val (.int ((((p4.toUInt32 >>> ((2 : Int32) &&& 31).toUInt32).toInt32) &&& (3 : Int32)) % (3 : Int32))), .val (.int ((((p4.toUInt32 >>> ((4 : Int32) &&& 31).toUInt32).toInt32) &&& (3 : Int32)) % (3 : Int32))), .val (.int ((((p4.toUInt32 >>> ((6 : Int32) &&& 31).toUInt32).toInt32) &&& (3 : Int32)) % (3 : Int32))), .unset, .unset, .unset, .unset] [(.int p4)])) _
      refine XS.sipush X0.here hx rfl (hb hby at_41) ?_
      show Steps p.tables e below (s₁.setTop (mkF m 44 #[.val (.int p0), .val (.int p1), .val (.int p2), .val (.int p3), .val (.int p4), .val (.int ((p4 &&& (3 : Int32)) % (3 : Int32))), .val (.int ((((p4.toUInt32 >>> ((2 : Int32) &&& 31).toUInt32).toInt32) &&& (3 : Int32)) % (3 : Int32))), .val (.int ((((p4.toUInt32 >>> ((4 : Int32) &&& 31).toUInt32).toInt32) &&& (3 : Int32)) % (3 : Int32))), .val (.int ((((p4.toUInt32 >>> ((6 : Int32) &&& 31).toUInt32).toInt32) &&& (3 : Int32)) % (3 : Int32))), .unset, .unset, .unset, .unset] [(.int (256 : Int32)), (.int p4)])) _
      refine XS.iand X0.here hx rfl (hb hby at_44) rfl ?_
      exact k
    by_cases hc45 : (p4 &&& (256 : Int32)) = (0 : Int32)
    · have pre274 : ∀ t, Steps p.tables e below (s₁.setTop (mkF m 60 #[.val (.int p0), .val (.int p1), .val (.int p2), .val (.int p3), .val (.int p4), .val (.int ((p4 &&& (3 : Int32)) % (3 : Int32))), .val (.int ((((p4.toUInt32 >>> ((2 : Int32) &&& 31).toUInt32).toInt32) &&& (3 : Int32)) % (3 : Int32))), .val (.int ((((p4.toUInt32 >>> ((4 : Int32) &&& 31).toUInt32).toInt32) &&& (3 : Int32)) % (3 : Int32))), .val (.int ((((p4.toUInt32 >>> ((6 : Int32) &&& 31).toUInt32).toInt32) &&& (3 : Int32)) % (3 : Int32))), .unset, .unset, .unset, .unset] [(.int (p4 &&& (512 : Int32)))])) t → Steps p.tables e below (s₁.setTop (entryFrame m #[(.int p0), (.int p1), (.int p2), (.int p3), (.int p4)] maxLocals)) t := fun t k => by
        refine pre273 _ ?_
        show Steps p.tables e below (s₁.setTop (mkF m 45 #[.val (.int p0), .val (.int p1), .val (.int p2), .val (.int p3), .val (.int p4), .val (.int ((p4 &&& (3 : Int32)) % (3 : Int32))), .val (.int ((((p4.toUInt32 >>> ((2 : Int32) &&& 31).toUInt32).toInt32) &&& (3 : Int32)) % (3 : Int32))), .val (.int ((((p4.toUInt32 >>> ((4 : Int32) &&& 31).toUInt32).toInt32) &&& (3 : Int32)) % (3 : Int32))), .val (.int ((((p4.toUInt32 >>> ((6 : Int32) &&& 31).toUInt32).toInt32) &&& (3 : Int32)) % (3 : Int32))), .unset, .unset, .unset, .unset] [(.int (p4 &&& (256 : Int32)))])) _
        refine XS.ifYes X0.here hx rfl (pc0 := 45) (pc' := 54) rfl (hb hby at_45) rfl ((if0 _ _).trans (teq hc45).1) (by decide) (by decide) ?_
        show Steps p.tables e below (s₁.setTop (mkF m 54 #[.val (.int p0), .val (.int p1), .val (.int p2), .val (.int p3), .val (.int p4), .val (.int ((p4 &&& (3 : Int32)) % (3 : Int32))), .val (.int ((((p4.toUInt32 >>> ((2 : Int32) &&& 31).toUInt32).toInt32) &&& (3 : Int32)) % (3 : Int32))), .val (.int ((((p4.toUInt32 >>> ((4 : Int32) &&& 31).toUInt32).toInt32) &&& (3 : Int32)) % (3 : Int32))), .val (.int ((((p4.toUInt32 >>> ((6 : Int32) &&& 31).toUInt32).toInt32) &&& (3 : Int32)) % (3 : Int32))), .unset, .unset, .unset, .unset] [])) _
        refine XS.iload X0.here hx rfl (hb hby at_54) rfl ?_
        show Steps p.tables e below (s₁.setTop (mkF m 56 #[.val (.int p0), .val (.int p1), .val (.int p2), .val (.int p3), .val (.int p4), .val (.int ((p4 &&& (3 : Int32)) % (3 : Int32))), .val (.int ((((p4.toUInt32 >>> ((2 : Int32) &&& 31).toUInt32).toInt32) &&& (3 : Int32)) % (3 : Int32))), .val (.int ((((p4.toUInt32 >>> ((4 : Int32) &&& 31).toUInt32).toInt32) &&& (3 : Int32)) % (3 : Int32))), .val (.int ((((p4.toUInt32 >>> ((6 : Int32) &&& 31).toUInt32).toInt32) &&& (3 : Int32)) % (3 : Int32))), .unset, .unset, .unset, .unset] [(.int p4)])) _
        refine XS.sipush X0.here hx rfl (hb hby at_56) ?_
        show Steps p.tables e below (s₁.setTop (mkF m 59 #[.val (.int p0), .val (.int p1), .val (.int p2), .val (.int p3), .val (.int p4), .val (.int ((p4 &&& (3 : Int32)) % (3 : Int32))), .val (.int ((((p4.toUInt32 >>> ((2 : Int32) &&& 31).toUInt32).toInt32) &&& (3 : Int32)) % (3 : Int32))), .val (.int ((((p4.toUInt32 >>> ((4 : Int32) &&& 31).toUInt32).toInt32) &&& (3 : Int32)) % (3 : Int32))), .val (.int ((((p4.toUInt32 >>> ((6 : Int32) &&& 31).toUInt32).toInt32) &&& (3 : Int32)) % (3 : Int32))), .unset, .unset, .unset, .unset] [(.int (512 : Int32)), (.int p4)])) _
        refine XS.iand X0.here hx rfl (hb hby at_59) rfl ?_
        exact k
      by_cases hc60 : (p4 &&& (512 : Int32)) = (0 : Int32)
      · have pre275 : ∀ t, Steps p.tables e below (s₁.setTop (mkF m 69 #[.val (.int p0), .val (.int p1), .val (.int p2), .val (.int p3), .val (.int p4), .val (.int ((p4 &&& (3 : Int32)) % (3 : Int32))), .val (.int ((((p4.toUInt32 >>> ((2 : Int32) &&& 31).toUInt32).toInt32) &&& (3 : Int32)) % (3 : Int32))), .val (.int ((((p4.toUInt32 >>> ((4 : Int32) &&& 31).toUInt32).toInt32) &&& (3 : Int32)) % (3 : Int32))), .val (.int ((((p4.toUInt32 >>> ((6 : Int32) &&& 31).toUInt32).toInt32) &&& (3 : Int32)) % (3 : Int32))), .unset, .unset, .unset, .unset] [])) t → Steps p.tables e below (s₁.setTop (entryFrame m #[(.int p0), (.int p1), (.int p2), (.int p3), (.int p4)] maxLocals)) t := fun t k => by
          refine pre274 _ ?_
          show Steps p.tables e below (s₁.setTop (mkF m 60 #[.val (.int p0), .val (.int p1), .val (.int p2), .val (.int p3), .val (.int p4), .val (.int ((p4 &&& (3 : Int32)) % (3 : Int32))), .val (.int ((((p4.toUInt32 >>> ((2 : Int32) &&& 31).toUInt32).toInt32) &&& (3 : Int32)) % (3 : Int32))), .val (.int ((((p4.toUInt32 >>> ((4 : Int32) &&& 31).toUInt32).toInt32) &&& (3 : Int32)) % (3 : Int32))), .val (.int ((((p4.toUInt32 >>> ((6 : Int32) &&& 31).toUInt32).toInt32) &&& (3 : Int32)) % (3 : Int32))), .unset, .unset, .unset, .unset] [(.int (p4 &&& (512 : Int32)))])) _
          refine XS.ifYes X0.here hx rfl (pc0 := 60) (pc' := 69) rfl (hb hby at_60) rfl ((if0 _ _).trans (teq hc60).1) (by decide) (by decide) ?_
          exact k
        exact ⟨p2, p3, ((((p4.toUInt32 >>> ((4 : Int32) &&& 31).toUInt32).toInt32) &&& (3 : Int32)) % (3 : Int32)), ((((p4.toUInt32 >>> ((6 : Int32) &&& 31).toUInt32).toInt32) &&& (3 : Int32)) % (3 : Int32)), s₁, X0, e0, pre275, (own_l _), (own_l _)⟩
      · have pre276 : ∀ t, Steps p.tables e below (s₁.setTop (mkF m 69 #[.val (.int p0), .val (.int p1), .val (.int p2), .val (.int p1), .val (.int p4), .val (.int ((p4 &&& (3 : Int32)) % (3 : Int32))), .val (.int ((((p4.toUInt32 >>> ((2 : Int32) &&& 31).toUInt32).toInt32) &&& (3 : Int32)) % (3 : Int32))), .val (.int ((((p4.toUInt32 >>> ((4 : Int32) &&& 31).toUInt32).toInt32) &&& (3 : Int32)) % (3 : Int32))), .val (.int ((((p4.toUInt32 >>> ((2 : Int32) &&& 31).toUInt32).toInt32) &&& (3 : Int32)) % (3 : Int32))), .unset, .unset, .unset, .unset] [])) t → Steps p.tables e below (s₁.setTop (entryFrame m #[(.int p0), (.int p1), (.int p2), (.int p3), (.int p4)] maxLocals)) t := fun t k => by
          refine pre274 _ ?_
          show Steps p.tables e below (s₁.setTop (mkF m 60 #[.val (.int p0), .val (.int p1), .val (.int p2), .val (.int p3), .val (.int p4), .val (.int ((p4 &&& (3 : Int32)) % (3 : Int32))), .val (.int ((((p4.toUInt32 >>> ((2 : Int32) &&& 31).toUInt32).toInt32) &&& (3 : Int32)) % (3 : Int32))), .val (.int ((((p4.toUInt32 >>> ((4 : Int32) &&& 31).toUInt32).toInt32) &&& (3 : Int32)) % (3 : Int32))), .val (.int ((((p4.toUInt32 >>> ((6 : Int32) &&& 31).toUInt32).toInt32) &&& (3 : Int32)) % (3 : Int32))), .unset, .unset, .unset, .unset] [(.int (p4 &&& (512 : Int32)))])) _
          refine XS.ifNo X0.here hx rfl (hb hby at_60) rfl ((if0 _ _).trans (feq hc60).1) ?_
          show Steps p.tables e below (s₁.setTop (mkF m 63 #[.val (.int p0), .val (.int p1), .val (.int p2), .val (.int p3), .val (.int p4), .val (.int ((p4 &&& (3 : Int32)) % (3 : Int32))), .val (.int ((((p4.toUInt32 >>> ((2 : Int32) &&& 31).toUInt32).toInt32) &&& (3 : Int32)) % (3 : Int32))), .val (.int ((((p4.toUInt32 >>> ((4 : Int32) &&& 31).toUInt32).toInt32) &&& (3 : Int32)) % (3 : Int32))), .val (.int ((((p4.toUInt32 >>> ((6 : Int32) &&& 31).toUInt32).toInt32) &&& (3 : Int32)) % (3 : Int32))), .unset, .unset, .unset, .unset] [])) _
          refine XS.iloadN X0.here hx rfl (hb hby at_63) rfl ?_
          show Steps p.tables e below (s₁.setTop (mkF m 64 #[.val (.int p0), .val (.int p1), .val (.int p2), .val (.int p3), .val (.int p4), .val (.int ((p4 &&& (3 : Int32)) % (3 : Int32))), .val (.int ((((p4.toUInt32 >>> ((2 : Int32) &&& 31).toUInt32).toInt32) &&& (3 : Int32)) % (3 : Int32))), .val (.int ((((p4.toUInt32 >>> ((4 : Int32) &&& 31).toUInt32).toInt32) &&& (3 : Int32)) % (3 : Int32))), .val (.int ((((p4.toUInt32 >>> ((6 : Int32) &&& 31).toUInt32).toInt32) &&& (3 : Int32)) % (3 : Int32))), .unset, .unset, .unset, .unset] [(.int p1)])) _
          refine XS.istoreN X0.here hx rfl (hb hby at_64) rfl (l' := #[.val (.int p0), .val (.int p1), .val (.int p2), .val (.int p1), .val (.int p4), .val (.int ((p4 &&& (3 : Int32)) % (3 : Int32))), .val (.int ((((p4.toUInt32 >>> ((2 : Int32) &&& 31).toUInt32).toInt32) &&& (3 : Int32)) % (3 : Int32))), .val (.int ((((p4.toUInt32 >>> ((4 : Int32) &&& 31).toUInt32).toInt32) &&& (3 : Int32)) % (3 : Int32))), .val (.int ((((p4.toUInt32 >>> ((6 : Int32) &&& 31).toUInt32).toInt32) &&& (3 : Int32)) % (3 : Int32))), .unset, .unset, .unset, .unset]) rfl ?_
          show Steps p.tables e below (s₁.setTop (mkF m 65 #[.val (.int p0), .val (.int p1), .val (.int p2), .val (.int p1), .val (.int p4), .val (.int ((p4 &&& (3 : Int32)) % (3 : Int32))), .val (.int ((((p4.toUInt32 >>> ((2 : Int32) &&& 31).toUInt32).toInt32) &&& (3 : Int32)) % (3 : Int32))), .val (.int ((((p4.toUInt32 >>> ((4 : Int32) &&& 31).toUInt32).toInt32) &&& (3 : Int32)) % (3 : Int32))), .val (.int ((((p4.toUInt32 >>> ((6 : Int32) &&& 31).toUInt32).toInt32) &&& (3 : Int32)) % (3 : Int32))), .unset, .unset, .unset, .unset] [])) _
          refine XS.iload X0.here hx rfl (hb hby at_65) rfl ?_
          show Steps p.tables e below (s₁.setTop (mkF m 67 #[.val (.int p0), .val (.int p1), .val (.int p2), .val (.int p1), .val (.int p4), .val (.int ((p4 &&& (3 : Int32)) % (3 : Int32))), .val (.int ((((p4.toUInt32 >>> ((2 : Int32) &&& 31).toUInt32).toInt32) &&& (3 : Int32)) % (3 : Int32))), .val (.int ((((p4.toUInt32 >>> ((4 : Int32) &&& 31).toUInt32).toInt32) &&& (3 : Int32)) % (3 : Int32))), .val (.int ((((p4.toUInt32 >>> ((6 : Int32) &&& 31).toUInt32).toInt32) &&& (3 : Int32)) % (3 : Int32))), .unset, .unset, .unset, .unset] [(.int ((((p4.toUInt32 >>> ((2 : Int32) &&& 31).toUInt32).toInt32) &&& (3 : Int32)) % (3 : Int32)))])) _
          refine XS.istore X0.here hx rfl (hb hby at_67) rfl (l' := #[.val (.int p0), .val (.int p1), .val (.int p2), .val (.int p1), .val (.int p4), .val (.int ((p4 &&& (3 : Int32)) % (3 : Int32))), .val (.int ((((p4.toUInt32 >>> ((2 : Int32) &&& 31).toUInt32).toInt32) &&& (3 : Int32)) % (3 : Int32))), .val (.int ((((p4.toUInt32 >>> ((4 : Int32) &&& 31).toUInt32).toInt32) &&& (3 : Int32)) % (3 : Int32))), .val (.int ((((p4.toUInt32 >>> ((2 : Int32) &&& 31).toUInt32).toInt32) &&& (3 : Int32)) % (3 : Int32))), .unset, .unset, .unset, .unset]) rfl ?_
          exact k
        exact ⟨p2, p1, ((((p4.toUInt32 >>> ((4 : Int32) &&& 31).toUInt32).toInt32) &&& (3 : Int32)) % (3 : Int32)), ((((p4.toUInt32 >>> ((2 : Int32) &&& 31).toUInt32).toInt32) &&& (3 : Int32)) % (3 : Int32)), s₁, X0, e0, pre276, (own_l _), (own_l _)⟩
    · have pre277 : ∀ t, Steps p.tables e below (s₁.setTop (mkF m 60 #[.val (.int p0), .val (.int p1), .val (.int p0), .val (.int p3), .val (.int p4), .val (.int ((p4 &&& (3 : Int32)) % (3 : Int32))), .val (.int ((((p4.toUInt32 >>> ((2 : Int32) &&& 31).toUInt32).toInt32) &&& (3 : Int32)) % (3 : Int32))), .val (.int ((p4 &&& (3 : Int32)) % (3 : Int32))), .val (.int ((((p4.toUInt32 >>> ((6 : Int32) &&& 31).toUInt32).toInt32) &&& (3 : Int32)) % (3 : Int32))), .unset, .unset, .unset, .unset] [(.int (p4 &&& (512 : Int32)))])) t → Steps p.tables e below (s₁.setTop (entryFrame m #[(.int p0), (.int p1), (.int p2), (.int p3), (.int p4)] maxLocals)) t := fun t k => by
        refine pre273 _ ?_
        show Steps p.tables e below (s₁.setTop (mkF m 45 #[.val (.int p0), .val (.int p1), .val (.int p2), .val (.int p3), .val (.int p4), .val (.int ((p4 &&& (3 : Int32)) % (3 : Int32))), .val (.int ((((p4.toUInt32 >>> ((2 : Int32) &&& 31).toUInt32).toInt32) &&& (3 : Int32)) % (3 : Int32))), .val (.int ((((p4.toUInt32 >>> ((4 : Int32) &&& 31).toUInt32).toInt32) &&& (3 : Int32)) % (3 : Int32))), .val (.int ((((p4.toUInt32 >>> ((6 : Int32) &&& 31).toUInt32).toInt32) &&& (3 : Int32)) % (3 : Int32))), .unset, .unset, .unset, .unset] [(.int (p4 &&& (256 : Int32)))])) _
        refine XS.ifNo X0.here hx rfl (hb hby at_45) rfl ((if0 _ _).trans (feq hc45).1) ?_
        show Steps p.tables e below (s₁.setTop (mkF m 48 #[.val (.int p0), .val (.int p1), .val (.int p2), .val (.int p3), .val (.int p4), .val (.int ((p4 &&& (3 : Int32)) % (3 : Int32))), .val (.int ((((p4.toUInt32 >>> ((2 : Int32) &&& 31).toUInt32).toInt32) &&& (3 : Int32)) % (3 : Int32))), .val (.int ((((p4.toUInt32 >>> ((4 : Int32) &&& 31).toUInt32).toInt32) &&& (3 : Int32)) % (3 : Int32))), .val (.int ((((p4.toUInt32 >>> ((6 : Int32) &&& 31).toUInt32).toInt32) &&& (3 : Int32)) % (3 : Int32))), .unset, .unset, .unset, .unset] [])) _
        refine XS.iloadN X0.here hx rfl (hb hby at_48) rfl ?_
        show Steps p.tables e below (s₁.setTop (mkF m 49 #[.val (.int p0), .val (.int p1), .val (.int p2), .val (.int p3), .val (.int p4), .val (.int ((p4 &&& (3 : Int32)) % (3 : Int32))), .val (.int ((((p4.toUInt32 >>> ((2 : Int32) &&& 31).toUInt32).toInt32) &&& (3 : Int32)) % (3 : Int32))), .val (.int ((((p4.toUInt32 >>> ((4 : Int32) &&& 31).toUInt32).toInt32) &&& (3 : Int32)) % (3 : Int32))), .val (.int ((((p4.toUInt32 >>> ((6 : Int32) &&& 31).toUInt32).toInt32) &&& (3 : Int32)) % (3 : Int32))), .unset, .unset, .unset, .unset] [(.int p0)])) _
        refine XS.istoreN X0.here hx rfl (hb hby at_49) rfl (l' := #[.val (.int p0), .val (.int p1), .val (.int p0), .val (.int p3), .val (.int p4), .val (.int ((p4 &&& (3 : Int32)) % (3 : Int32))), .val (.int ((((p4.toUInt32 >>> ((2 : Int32) &&& 31).toUInt32).toInt32) &&& (3 : Int32)) % (3 : Int32))), .val (.int ((((p4.toUInt32 >>> ((4 : Int32) &&& 31).toUInt32).toInt32) &&& (3 : Int32)) % (3 : Int32))), .val (.int ((((p4.toUInt32 >>> ((6 : Int32) &&& 31).toUInt32).toInt32) &&& (3 : Int32)) % (3 : Int32))), .unset, .unset, .unset, .unset]) rfl ?_
        show Steps p.tables e below (s₁.setTop (mkF m 50 #[.val (.int p0), .val (.int p1), .val (.int p0), .val (.int p3), .val (.int p4), .val (.int ((p4 &&& (3 : Int32)) % (3 : Int32))), .val (.int ((((p4.toUInt32 >>> ((2 : Int32) &&& 31).toUInt32).toInt32) &&& (3 : Int32)) % (3 : Int32))), .val (.int ((((p4.toUInt32 >>> ((4 : Int32) &&& 31).toUInt32).toInt32) &&& (3 : Int32)) % (3 : Int32))), .val (.int ((((p4.toUInt32 >>> ((6 : Int32) &&& 31).toUInt32).toInt32) &&& (3 : Int32)) % (3 : Int32))), .unset, .unset, .unset, .unset] [])) _
        refine XS.iload X0.here hx rfl (hb hby at_50) rfl ?_
        show Steps p.tables e below (s₁.setTop (mkF m 52 #[.val (.int p0), .val (.int p1), .val (.int p0), .val (.int p3), .val (.int p4), .val (.int ((p4 &&& (3 : Int32)) % (3 : Int32))), .val (.int ((((p4.toUInt32 >>> ((2 : Int32) &&& 31).toUInt32).toInt32) &&& (3 : Int32)) % (3 : Int32))), .val (.int ((((p4.toUInt32 >>> ((4 : Int32) &&& 31).toUInt32).toInt32) &&& (3 : Int32)) % (3 : Int32))), .val (.int ((((p4.toUInt32 >>> ((6 : Int32) &&& 31).toUInt32).toInt32) &&& (3 : Int32)) % (3 : Int32))), .unset, .unset, .unset, .unset] [(.int ((p4 &&& (3 : Int32)) % (3 : Int32)))])) _
        refine XS.istore X0.here hx rfl (hb hby at_52) rfl (l' := #[.val (.int p0), .val (.int p1), .val (.int p0), .val (.int p3), .val (.int p4), .val (.int ((p4 &&& (3 : Int32)) % (3 : Int32))), .val (.int ((((p4.toUInt32 >>> ((2 : Int32) &&& 31).toUInt32).toInt32) &&& (3 : Int32)) % (3 : Int32))), .val (.int ((p4 &&& (3 : Int32)) % (3 : Int32))), .val (.int ((((p4.toUInt32 >>> ((6 : Int32) &&& 31).toUInt32).toInt32) &&& (3 : Int32)) % (3 : Int32))), .unset, .unset, .unset, .unset]) rfl ?_
        show Steps p.tables e below (s₁.setTop (mkF m 54 #[.val (.int p0), .val (.int p1), .val (.int p0), .val (.int p3), .val (.int p4), .val (.int ((p4 &&& (3 : Int32)) % (3 : Int32))), .val (.int ((((p4.toUInt32 >>> ((2 : Int32) &&& 31).toUInt32).toInt32) &&& (3 : Int32)) % (3 : Int32))), .val (.int ((p4 &&& (3 : Int32)) % (3 : Int32))), .val (.int ((((p4.toUInt32 >>> ((6 : Int32) &&& 31).toUInt32).toInt32) &&& (3 : Int32)) % (3 : Int32))), .unset, .unset, .unset, .unset] [])) _
        refine XS.iload X0.here hx rfl (hb hby at_54) rfl ?_
        show Steps p.tables e below (s₁.setTop (mkF m 56 #[.val (.int p0), .val (.int p1), .val (.int p0), .val (.int p3), .val (.int p4), .val (.int ((p4 &&& (3 : Int32)) % (3 : Int32))), .val (.int ((((p4.toUInt32 >>> ((2 : Int32) &&& 31).toUInt32).toInt32) &&& (3 : Int32)) % (3 : Int32))), .val (.int ((p4 &&& (3 : Int32)) % (3 : Int32))), .val (.int ((((p4.toUInt32 >>> ((6 : Int32) &&& 31).toUInt32).toInt32) &&& (3 : Int32)) % (3 : Int32))), .unset, .unset, .unset, .unset] [(.int p4)])) _
        refine XS.sipush X0.here hx rfl (hb hby at_56) ?_
        show Steps p.tables e below (s₁.setTop (mkF m 59 #[.val (.int p0), .val (.int p1), .val (.int p0), .val (.int p3), .val (.int p4), .val (.int ((p4 &&& (3 : Int32)) % (3 : Int32))), .val (.int ((((p4.toUInt32 >>> ((2 : Int32) &&& 31).toUInt32).toInt32) &&& (3 : Int32)) % (3 : Int32))), .val (.int ((p4 &&& (3 : Int32)) % (3 : Int32))), .val (.int ((((p4.toUInt32 >>> ((6 : Int32) &&& 31).toUInt32).toInt32) &&& (3 : Int32)) % (3 : Int32))), .unset, .unset, .unset, .unset] [(.int (512 : Int32)), (.int p4)])) _
        refine XS.iand X0.here hx rfl (hb hby at_59) rfl ?_
        exact k
      by_cases hc60 : (p4 &&& (512 : Int32)) = (0 : Int32)
      · have pre278 : ∀ t, Steps p.tables e below (s₁.setTop (mkF m 69 #[.val (.int p0), .val (.int p1), .val (.int p0), .val (.int p3), .val (.int p4), .val (.int ((p4 &&& (3 : Int32)) % (3 : Int32))), .val (.int ((((p4.toUInt32 >>> ((2 : Int32) &&& 31).toUInt32).toInt32) &&& (3 : Int32)) % (3 : Int32))), .val (.int ((p4 &&& (3 : Int32)) % (3 : Int32))), .val (.int ((((p4.toUInt32 >>> ((6 : Int32) &&& 31).toUInt32).toInt32) &&& (3 : Int32)) % (3 : Int32))), .unset, .unset, .unset, .unset] [])) t → Steps p.tables e below (s₁.setTop (entryFrame m #[(.int p0), (.int p1), (.int p2), (.int p3), (.int p4)] maxLocals)) t := fun t k => by
          refine pre277 _ ?_
          show Steps p.tables e below (s₁.setTop (mkF m 60 #[.val (.int p0), .val (.int p1), .val (.int p0), .val (.int p3), .val (.int p4), .val (.int ((p4 &&& (3 : Int32)) % (3 : Int32))), .val (.int ((((p4.toUInt32 >>> ((2 : Int32) &&& 31).toUInt32).toInt32) &&& (3 : Int32)) % (3 : Int32))), .val (.int ((p4 &&& (3 : Int32)) % (3 : Int32))), .val (.int ((((p4.toUInt32 >>> ((6 : Int32) &&& 31).toUInt32).toInt32) &&& (3 : Int32)) % (3 : Int32))), .unset, .unset, .unset, .unset] [(.int (p4 &&& (512 : Int32)))])) _
          refine XS.ifYes X0.here hx rfl (pc0 := 60) (pc' := 69) rfl (hb hby at_60) rfl ((if0 _ _).trans (teq hc60).1) (by decide) (by decide) ?_
          exact k
        exact ⟨p0, p3, ((p4 &&& (3 : Int32)) % (3 : Int32)), ((((p4.toUInt32 >>> ((6 : Int32) &&& 31).toUInt32).toInt32) &&& (3 : Int32)) % (3 : Int32)), s₁, X0, e0, pre278, (own_l _), (own_l _)⟩
      · have pre279 : ∀ t, Steps p.tables e below (s₁.setTop (mkF m 69 #[.val (.int p0), .val (.int p1), .val (.int p0), .val (.int p1), .val (.int p4), .val (.int ((p4 &&& (3 : Int32)) % (3 : Int32))), .val (.int ((((p4.toUInt32 >>> ((2 : Int32) &&& 31).toUInt32).toInt32) &&& (3 : Int32)) % (3 : Int32))), .val (.int ((p4 &&& (3 : Int32)) % (3 : Int32))), .val (.int ((((p4.toUInt32 >>> ((2 : Int32) &&& 31).toUInt32).toInt32) &&& (3 : Int32)) % (3 : Int32))), .unset, .unset, .unset, .unset] [])) t → Steps p.tables e below (s₁.setTop (entryFrame m #[(.int p0), (.int p1), (.int p2), (.int p3), (.int p4)] maxLocals)) t := fun t k => by
          refine pre277 _ ?_
          show Steps p.tables e below (s₁.setTop (mkF m 60 #[.val (.int p0), .val (.int p1), .val (.int p0), .val (.int p3), .val (.int p4), .val (.int ((p4 &&& (3 : Int32)) % (3 : Int32))), .val (.int ((((p4.toUInt32 >>> ((2 : Int32) &&& 31).toUInt32).toInt32) &&& (3 : Int32)) % (3 : Int32))), .val (.int ((p4 &&& (3 : Int32)) % (3 : Int32))), .val (.int ((((p4.toUInt32 >>> ((6 : Int32) &&& 31).toUInt32).toInt32) &&& (3 : Int32)) % (3 : Int32))), .unset, .unset, .unset, .unset] [(.int (p4 &&& (512 : Int32)))])) _
          refine XS.ifNo X0.here hx rfl (hb hby at_60) rfl ((if0 _ _).trans (feq hc60).1) ?_
          show Steps p.tables e below (s₁.setTop (mkF m 63 #[.val (.int p0), .val (.int p1), .val (.int p0), .val (.int p3), .val (.int p4), .val (.int ((p4 &&& (3 : Int32)) % (3 : Int32))), .val (.int ((((p4.toUInt32 >>> ((2 : Int32) &&& 31).toUInt32).toInt32) &&& (3 : Int32)) % (3 : Int32))), .val (.int ((p4 &&& (3 : Int32)) % (3 : Int32))), .val (.int ((((p4.toUInt32 >>> ((6 : Int32) &&& 31).toUInt32).toInt32) &&& (3 : Int32)) % (3 : Int32))), .unset, .unset, .unset, .unset] [])) _
          refine XS.iloadN X0.here hx rfl (hb hby at_63) rfl ?_
          show Steps p.tables e below (s₁.setTop (mkF m 64 #[.val (.int p0), .val (.int p1), .val (.int p0), .val (.int p3), .val (.int p4), .val (.int ((p4 &&& (3 : Int32)) % (3 : Int32))), .val (.int ((((p4.toUInt32 >>> ((2 : Int32) &&& 31).toUInt32).toInt32) &&& (3 : Int32)) % (3 : Int32))), .val (.int ((p4 &&& (3 : Int32)) % (3 : Int32))), .val (.int ((((p4.toUInt32 >>> ((6 : Int32) &&& 31).toUInt32).toInt32) &&& (3 : Int32)) % (3 : Int32))), .unset, .unset, .unset, .unset] [(.int p1)])) _
          refine XS.istoreN X0.here hx rfl (hb hby at_64) rfl (l' := #[.val (.int p0), .val (.int p1), .val (.int p0), .val (.int p1), .val (.int p4), .val (.int ((p4 &&& (3 : Int32)) % (3 : Int32))), .val (.int ((((p4.toUInt32 >>> ((2 : Int32) &&& 31).toUInt32).toInt32) &&& (3 : Int32)) % (3 : Int32))), .val (.int ((p4 &&& (3 : Int32)) % (3 : Int32))), .val (.int ((((p4.toUInt32 >>> ((6 : Int32) &&& 31).toUInt32).toInt32) &&& (3 : Int32)) % (3 : Int32))), .unset, .unset, .unset, .unset]) rfl ?_
          show Steps p.tables e below (s₁.setTop (mkF m 65 #[.val (.int p0), .val (.int p1), .val (.int p0), .val (.int p1), .val (.int p4), .val (.int ((p4 &&& (3 : Int32)) % (3 : Int32))), .val (.int ((((p4.toUInt32 >>> ((2 : Int32) &&& 31).toUInt32).toInt32) &&& (3 : Int32)) % (3 : Int32))), .val (.int ((p4 &&& (3 : Int32)) % (3 : Int32))), .val (.int ((((p4.toUInt32 >>> ((6 : Int32) &&& 31).toUInt32).toInt32) &&& (3 : Int32)) % (3 : Int32))), .unset, .unset, .unset, .unset] [])) _
          refine XS.iload X0.here hx rfl (hb hby at_65) rfl ?_
          show Steps p.tables e below (s₁.setTop (mkF m 67 #[.val (.int p0), .val (.int p1), .val (.int p0), .val (.int p1), .val (.int p4), .val (.int ((p4 &&& (3 : Int32)) % (3 : Int32))), .val (.int ((((p4.toUInt32 >>> ((2 : Int32) &&& 31).toUInt32).toInt32) &&& (3 : Int32)) % (3 : Int32))), .val (.int ((p4 &&& (3 : Int32)) % (3 : Int32))), .val (.int ((((p4.toUInt32 >>> ((6 : Int32) &&& 31).toUInt32).toInt32) &&& (3 : Int32)) % (3 : Int32))), .unset, .unset, .unset, .unset] [(.int ((((p4.toUInt32 >>> ((2 : Int32) &&& 31).toUInt32).toInt32) &&& (3 : Int32)) % (3 : Int32)))])) _
          refine XS.istore X0.here hx rfl (hb hby at_67) rfl (l' := #[.val (.int p0), .val (.int p1), .val (.int p0), .val (.int p1), .val (.int p4), .val (.int ((p4 &&& (3 : Int32)) % (3 : Int32))), .val (.int ((((p4.toUInt32 >>> ((2 : Int32) &&& 31).toUInt32).toInt32) &&& (3 : Int32)) % (3 : Int32))), .val (.int ((p4 &&& (3 : Int32)) % (3 : Int32))), .val (.int ((((p4.toUInt32 >>> ((2 : Int32) &&& 31).toUInt32).toInt32) &&& (3 : Int32)) % (3 : Int32))), .unset, .unset, .unset, .unset]) rfl ?_
          exact k
        exact ⟨p0, p1, ((p4 &&& (3 : Int32)) % (3 : Int32)), ((((p4.toUInt32 >>> ((2 : Int32) &&& 31).toUInt32).toInt32) &&& (3 : Int32)) % (3 : Int32)), s₁, X0, e0, pre279, (own_l _), (own_l _)⟩
set_option maxRecDepth 65536 in
set_option maxHeartbeats 40000000 in
theorem comes_1 {Post : Tables → Env → Array Value → State → Outcome → State → Prop} (hpost : ∀ tb e args s v u, (limb_1_1.after args s (.returned v) u = true ∧ limb_1_2.after args s (.returned v) u = true ∧ True) → ReturnedEndW s (.returned v) u (Jvm.fieldLocs frame_1_writes args s ++ Jvm.arrayLocs frame_1_arrays args s ++ Jvm.staticLocs frame_1_statics s) 40 1216 → Post tb e args s (.returned v) u) :
    ArmFor flags0 classFile x code maxLocals ret World_1 tables_1 room_1 Calls_1 rest_1 Pre_1 Post := by
  intro l hfl _ _ p e ha hc hk s m args below hf hA hF happ hP
  obtain ⟨hcalls, hrest, hpre⟩ := hP
  obtain ⟨-, -, -, hnamed, -, -, -, hat⟩ := (Spec.applies_iff hf).mp happ
  obtain ⟨hg, hn⟩ := and_e (Cond.before_iff.mp (show (Jvm.Cond.and given_1 narrow_1).before args s = true from hpre))
  obtain ⟨hcount, hg0⟩ := and_e hg
  obtain ⟨hi0, hg1⟩ := and_e hg0
  obtain ⟨hi1, hg2⟩ := and_e hg1
  obtain ⟨hi2, hg3⟩ := and_e hg2
  obtain ⟨hi3, hg4⟩ := and_e hg3
  have hi4 := hg4
  obtain ⟨w0, w1, w2, w3, w4, rfl⟩ : ∃ w0 w1 w2 w3 w4 : Value, args = #[w0, w1, w2, w3, w4] := by
    have hs : args.size = 5 := by simpa [Cond.value, given_1] using hcount
    obtain ⟨L⟩ := args
    match L, hs with
    | [w0, w1, w2, w3, w4], _ => exact ⟨w0, w1, w2, w3, w4, rfl⟩
  have hw := fun d (hd : d ∈ tables_1) => atoms_spec (ws := Jvm.Cond.code x code maxLocals ret :: tables_1) hat d (List.mem_cons_of_mem _ hd)
  have hfit : Fit s := fun {y c} hc i hi => by
    obtain ⟨ha, rfl⟩ := Array.getElem?_eq_some_iff.mp hc
    have q := List.all_eq_true.mp ((Array.all_eq_true_iff_forall_mem.mp hF) _ (Array.getElem_mem ha)) i (List.mem_range.mpr hi)
    simpa [Array.getElem?_eq_getElem hi] using q
  obtain ⟨hsets, hown0⟩ := atoms_of _ (rest_1_c_eq ▸ (show rest_1_c.before _ s = true from hrest))
  have hr0 := Cond.before_iff.mp hown0
  obtain ⟨i0, ei0⟩ := is_v hi0
  obtain rfl : w0 = (.int i0) := Option.some.inj ei0
  obtain ⟨i1, ei1⟩ := is_v hi1
  obtain rfl : w1 = (.int i1) := Option.some.inj ei1
  obtain ⟨i2, ei2⟩ := is_v hi2
  obtain rfl : w2 = (.int i2) := Option.some.inj ei2
  obtain ⟨i3, ei3⟩ := is_v hi3
  obtain rfl : w3 = (.int i3) := Option.some.inj ei3
  obtain ⟨i4, ei4⟩ := is_v hi4
  obtain rfl : w4 = (.int i4) := Option.some.inj ei4
  obtain ⟨cw, evw⟩ := is_v (Cond.before_iff.mp (hsets _ (List.mem_of_getElem? (i := 1) rfl)))
  have S_w : Sta s s.heap "java/lang/String" "COMPACT_STRINGS" "Z" (.int cw) := Sta.start evw (Or.inl (hsets _ (List.mem_of_getElem? (i := 0) rfl)))
  have hw0 := own_cs evw (Cond.before_iff.mp (hsets _ (List.mem_of_getElem? (i := 2) rfl)))
  have hCH : CHv s own_EL s.vm s.heap := CHv.start (own_hEL hw) (fun p hp => hcalls.1 p hp) (hsets _ (List.mem_of_getElem? (i := 2) rfl)) (hw _ (List.mem_of_getElem? (i := 22) rfl)) (hw _ (List.mem_of_getElem? (i := 8) rfl))
  obtain ⟨n, o, h1, h2, h3, _, L, rfl, ⟨rfl, N⟩, -, hq⟩ := rm0 l s _ hw tables_1 i0 i1 i2 i3 i4 cw s.heap s.heap.size (Nat.le_refl _) S_w hw0 p e ha hc hk s m _ below hf ((Spec.applies_iff_loose hf).mp happ).1 ⟨rfl, State.Warmed39.refl s, rfl, hCH⟩ trivial
  refine ⟨n, _, h1, h2, h3, hpost _ _ _ _ _ _ ⟨Cond.after_iff.mpr rfl, Cond.after_iff.mpr (eq_i res_at (Term.int_eval (1)) rfl), trivial⟩ ⟨hq.1, hq.2.1, hq.2.2.1, (hq.2.2.2.sift fun y hy => Or.inr (N y hy)).mono (by decide) (by decide)⟩⟩
theorem main_1_1 : Claimed_1_1 := comes_1 fun _ _ _ _ _ _ h hF => ⟨h.1, hF⟩
theorem main_1_2 : Claimed_1_2 := comes_1 fun _ _ _ _ _ _ h hF => ⟨h.2.1, hF⟩
end Jvm.Pilot.@@N@@
namespace Jvm.Pilot.@@N@@
open Jvm Jvm.ClassFile Sem Op Lib Jvm.Free Jvm.Stand Jvm.Pilot.@@N@@.Jvm.D
/-! MADE BY PROGRAM (witnessworld.py) out of the Statement's table words and the real class files: 20 classes; the members and pool entries that the words name. The judged class is class 1, her method 3. -/
namespace start1
open Jvm.ClassFile
def u (s : String) : CpInfo := .utf8 (stringToUtf16 s)
/-- a pool by its gaps: so many unusable entries, then the entry; so many at the end -/
def gap : Nat → List CpInfo → List CpInfo
  | 0, r => r
  | n + 1, r => .unusable :: gap n r
def poolList (es : List (Nat × CpInfo)) (last : Nat) : List CpInfo := es.foldr (fun e r => gap e.1 (e.2 :: r)) (gap last [])
def pool (es : List (Nat × CpInfo)) (last : Nat) : Array CpInfo := ⟨poolList es last⟩
def fileOf (pool : Array CpInfo) (this : Nat) (attrs : Array Attribute := #[]) (ms : Array MethodInfo := #[]) (fl : Nat := 33) (sup : Nat := 0) (ifs : Array Nat := #[]) (fds : Array FieldInfo := #[]) : ClassFile where
  minorVersion := 0
  majorVersion := 65
  constantPool := pool
  accessFlags := fl
  thisClass := this
  superClass := sup
  interfaces := ifs
  fields := fds
  methods := ms
  attributes := attrs
def plain (name : String) (sup : Option ClassId) : Class where
  name := name
  kind := .ordinary
  loader := none
  accessFlags := 33
  super := sup
  interfaces := #[]
  cf := none
  fields := #[]
  methods := #[]
  instanceTypes := #[]
  staticTypes := #[]
  resolved := #[]
  callSites := []
  init := .initialized
  statics := none
  mirror := none

def pool0 : Array CpInfo := pool [(5, u "<init>"), (0, u "()V"), (1, .class_ 10), (1, u "java/lang/Object")] 113

def k0c0 : Code := { maxStack := 0, maxLocals := 1, code := object_method_1_code, exceptionTable := #[], attributes := #[] }
def k0m0 : Method := { name := "<init>", desc := "()V", sig := { parameters := [], returnType := none }, accessFlags := 1, code := some k0c0 }
/-- java/lang/Object -/
def k0 : Class := { plain "java/lang/Object" none with
  accessFlags := 33
  interfaces := #[]
  cf := some (fileOf pool0 8 #[] #[{ accessFlags := 1, nameIndex := 5, descriptorIndex := 6, attributes := #[] }] 33 0 #[] #[])
  fields := #[]
  methods := #[k0m0]
  instanceTypes := #[]
  staticTypes := #[]
  resolved := Array.replicate 124 none
  statics := none }

def pool1 : Array CpInfo := pool [(2, .class_ 4), (1, u "java/lang/Object"), (0, u "<init>"), (0, u "()V"), (0, .class_ 8), (0, u "java/lang/String"), (0, .methodref 7 10), (0, .nameAndType 5 11), (0, u "([C)V"), (0, .class_ 13), (0, u "com/example/postbag/postbag/broker/StoredBinding"), (0, .methodref 15 16), (0, .class_ 17), (0, .nameAndType 18 19), (0, u "com/example/postbag/postbag/broker/StoredBindingEqualsPinLaw"), (0, u "mk"), (0, u "(II)Ljava/lang/String;"), (0, .methodref 12 21), (0, .nameAndType 5 22), (0, u "(Ljava/lang/String;Ljava/lang/String;)V"), (0, .methodref 15 24), (0, .nameAndType 25 26), (0, u "same"), (0, u "(IIII)Z"), (0, .methodref 12 28), (0, .nameAndType 29 30), (0, u "equals"), (0, u "(Ljava/lang/Object;)Z"), (3, u "law"), (0, u "(IIIII)Z")] 2

def k1m0 : Method := { name := "<init>", desc := "()V", sig := { parameters := [], returnType := none }, accessFlags := 1, code := none }
def k1c1 : Code := { maxStack := 3, maxLocals := 5, code := method_2_code, exceptionTable := #[], attributes := #[] }
def k1m1 : Method := { name := "mk", desc := "(II)Ljava/lang/String;", sig := { parameters := [.int, .int], returnType := some (.object "java/lang/String") }, accessFlags := 10, code := some k1c1 }
def k1c2 : Code := { maxStack := 3, maxLocals := 4, code := method_3_code, exceptionTable := #[], attributes := #[] }
def k1m2 : Method := { name := "same", desc := "(IIII)Z", sig := { parameters := [.int, .int, .int, .int], returnType := some .boolean }, accessFlags := 10, code := some k1c2 }
def k1c3 : Code := { maxStack := 5, maxLocals := 13, code := code, exceptionTable := #[], attributes := #[] }
def k1m3 : Method := { name := "law", desc := "(IIIII)Z", sig := { parameters := [.int, .int, .int, .int, .int], returnType := some .boolean }, accessFlags := 9, code := some k1c3 }
/-- com/example/postbag/postbag/broker/StoredBindingEqualsPinLaw -/
def k1 : Class := { plain "com/example/postbag/postbag/broker/StoredBindingEqualsPinLaw" (some 0) with
  accessFlags := 49
  interfaces := #[]
  cf := some (fileOf pool1 15 #[] #[{ accessFlags := 1, nameIndex := 5, descriptorIndex := 6, attributes := #[] }, { accessFlags := 10, nameIndex := 18, descriptorIndex := 19, attributes := #[] }, { accessFlags := 10, nameIndex := 25, descriptorIndex := 26, attributes := #[] }, { accessFlags := 9, nameIndex := 34, descriptorIndex := 35, attributes := #[] }] 49 2 #[] #[])
  fields := #[]
  methods := #[k1m0, k1m1, k1m2, k1m3]
  instanceTypes := #[]
  staticTypes := #[]
  resolved := Array.replicate 38 none
  statics := none }

def pool2 : Array CpInfo := pool [(1, .methodref 2 3), (0, .class_ 4), (0, .nameAndType 5 6), (0, u "java/lang/Object"), (0, u "<init>"), (0, u "()V"), (0, .fieldref 8 9), (0, .class_ 10), (0, .nameAndType 11 12), (0, u "com/example/postbag/postbag/broker/StoredBinding"), (0, u "exchange"), (0, u "Ljava/lang/String;"), (0, .fieldref 8 14), (0, .nameAndType 15 12), (0, u "bindingKey"), (0, .methodref 17 18), (0, .class_ 19), (0, .nameAndType 20 21), (0, u "java/lang/String"), (0, u "equals"), (0, u "(Ljava/lang/Object;)Z"), (6, u "(Ljava/lang/String;Ljava/lang/String;)V")] 8

def k2c0 : Code := { maxStack := 2, maxLocals := 3, code := prog_9_method_1_code, exceptionTable := #[], attributes := #[] }
def k2m0 : Method := { name := "<init>", desc := "(Ljava/lang/String;Ljava/lang/String;)V", sig := { parameters := [(.object "java/lang/String"), (.object "java/lang/String")], returnType := none }, accessFlags := 1, code := some k2c0 }
def k2c1 : Code := { maxStack := 2, maxLocals := 3, code := prog_9_method_4_code, exceptionTable := #[], attributes := #[] }
def k2m1 : Method := { name := "equals", desc := "(Ljava/lang/Object;)Z", sig := { parameters := [(.object "java/lang/Object")], returnType := some .boolean }, accessFlags := 1, code := some k2c1 }
/-- com/example/postbag/postbag/broker/StoredBinding -/
def k2 : Class := { plain "com/example/postbag/postbag/broker/StoredBinding" (some 0) with
  accessFlags := 49
  interfaces := #[]
  cf := some (fileOf pool2 8 #[] #[{ accessFlags := 1, nameIndex := 5, descriptorIndex := 28, attributes := #[] }, { accessFlags := 1, nameIndex := 20, descriptorIndex := 21, attributes := #[] }] 49 2 #[] #[{ accessFlags := 18, nameIndex := 11, descriptorIndex := 12, attributes := #[] }, { accessFlags := 18, nameIndex := 15, descriptorIndex := 12, attributes := #[] }])
  fields := #[{ name := "exchange", type := (.object "java/lang/String"), accessFlags := 18, slot := 0, constantValue := 0 }, { name := "bindingKey", type := (.object "java/lang/String"), accessFlags := 18, slot := 1, constantValue := 0 }]
  methods := #[k2m0, k2m1]
  instanceTypes := #[(.object "java/lang/String"), (.object "java/lang/String")]
  staticTypes := #[]
  resolved := Array.replicate 37 none
  statics := none }

def pool3 : Array CpInfo := pool [(1, .class_ 2), (0, u "java/io/Serializable"), (0, .class_ 4), (0, u "java/lang/Object")] 2

/-- java/io/Serializable -/
def k3 : Class := { plain "java/io/Serializable" (some 0) with
  accessFlags := 1537
  interfaces := #[]
  cf := some (fileOf pool3 1 #[] #[] 1537 3 #[] #[])
  fields := #[]
  methods := #[]
  instanceTypes := #[]
  staticTypes := #[]
  resolved := Array.replicate 7 none
  statics := none }

def pool4 : Array CpInfo := pool [(1, .class_ 2), (0, u "java/lang/Comparable"), (0, .class_ 4), (0, u "java/lang/Object")] 7

/-- java/lang/Comparable -/
def k4 : Class := { plain "java/lang/Comparable" (some 0) with
  accessFlags := 1537
  interfaces := #[]
  cf := some (fileOf pool4 1 #[] #[] 1537 3 #[] #[])
  fields := #[]
  methods := #[]
  instanceTypes := #[]
  staticTypes := #[]
  resolved := Array.replicate 12 none
  statics := none }

def pool5 : Array CpInfo := pool [(2, .class_ 4), (1, u "java/lang/CharSequence"), (42, .class_ 48), (0, u "java/lang/CharSequence$1CodePointIterator"), (10, .class_ 60), (0, u "java/lang/CharSequence$1CharIterator"), (5, .class_ 67), (0, u "java/lang/Object")] 63

/-- java/lang/CharSequence -/
def k5 : Class := { plain "java/lang/CharSequence" (some 0) with
  accessFlags := 1537
  interfaces := #[]
  cf := some (fileOf pool5 2 #[.nestMembers #[47, 59]] #[] 1537 66 #[] #[])
  fields := #[]
  methods := #[]
  instanceTypes := #[]
  staticTypes := #[]
  resolved := Array.replicate 131 none
  statics := none }

def pool6 : Array CpInfo := pool [(1, .class_ 2), (0, u "java/lang/constant/Constable"), (0, .class_ 4), (0, u "java/lang/Object")] 6

/-- java/lang/constant/Constable -/
def k6 : Class := { plain "java/lang/constant/Constable" (some 0) with
  accessFlags := 1537
  interfaces := #[]
  cf := some (fileOf pool6 1 #[] #[] 1537 3 #[] #[])
  fields := #[]
  methods := #[]
  instanceTypes := #[]
  staticTypes := #[]
  resolved := Array.replicate 11 none
  statics := none }

def pool7 : Array CpInfo := pool [(1, .class_ 2), (0, u "java/lang/constant/ConstantDesc"), (0, .class_ 4), (0, u "java/lang/Object")] 32

/-- java/lang/constant/ConstantDesc -/
def k7 : Class := { plain "java/lang/constant/ConstantDesc" (some 0) with
  accessFlags := 1537
  interfaces := #[]
  cf := some (fileOf pool7 1 #[] #[] 1537 3 #[] #[])
  fields := #[]
  methods := #[]
  instanceTypes := #[]
  staticTypes := #[]
  resolved := Array.replicate 37 none
  statics := none }

def pool8 : Array CpInfo := pool [(1, .methodref 2 3), (0, .class_ 4), (0, .nameAndType 5 6), (0, u "java/lang/Object"), (0, u "<init>"), (0, u "()V"), (0, .string 8), (0, u ""), (0, .fieldref 10 11), (0, .class_ 12), (0, .nameAndType 13 14), (0, u "java/lang/String"), (0, u "value"), (0, u "[B"), (0, .fieldref 10 16), (0, .nameAndType 17 18), (0, u "coder"), (0, u "B"), (2, u "hash"), (0, u "I"), (2, u "hashIsZero"), (0, u "Z"), (0, .methodref 10 28), (0, .nameAndType 5 29), (0, u "([CIILjava/lang/Void;)V"), (8, .fieldref 10 39), (0, .nameAndType 40 26), (0, u "COMPACT_STRINGS"), (1, .class_ 44), (1, u "java/lang/StringUTF16"), (0, u "compress"), (1, .methodref 42 48), (0, .nameAndType 49 50), (0, u "coderFromArrayLen"), (0, u "([BI)B"), (56, .class_ 109), (1, u "java/lang/StringLatin1"), (67, .methodref 42 178), (0, .nameAndType 45 179), (0, u "([CII)[B"), (361, .methodref 107 542), (0, .nameAndType 543 544), (0, u "equals"), (0, u "([B[B)Z"), (28, u "(Ljava/lang/Object;)Z"), (1, .class_ 576), (0, u "java/lang/CharSequence"), (22, u "CASE_INSENSITIVE_ORDER"), (0, u "Ljava/util/Comparator;"), (409, u "([C)V"), (90, u "serialPersistentFields"), (0, u "[Ljava/io/ObjectStreamField;"), (0, .class_ 1104), (0, u "java/lang/String$CaseInsensitiveComparator"), (1, .class_ 1107), (0, u "java/io/Serializable"), (0, .class_ 1109), (0, u "java/lang/Comparable"), (0, .class_ 1111), (0, u "java/lang/constant/Constable"), (0, .class_ 1113), (0, u "java/lang/constant/ConstantDesc"), (2, u "serialVersionUID"), (0, u "J"), (3, u "REPL"), (0, u "C"), (2, u "LATIN1"), (1, u "UTF16")] 323

def k8m0 : Method := { name := "<init>", desc := "()V", sig := { parameters := [], returnType := none }, accessFlags := 1, code := none }
def k8c1 : Code := { maxStack := 5, maxLocals := 2, code := jdk_42_method_3_code, exceptionTable := #[], attributes := #[] }
def k8m1 : Method := { name := "<init>", desc := "([C)V", sig := { parameters := [(.array .char)], returnType := none }, accessFlags := 1, code := some k8c1 }
def k8c2 : Code := { maxStack := 2, maxLocals := 3, code := jdk_42_method_66_code, exceptionTable := #[], attributes := #[] }
def k8m2 : Method := { name := "equals", desc := "(Ljava/lang/Object;)Z", sig := { parameters := [(.object "java/lang/Object")], returnType := some .boolean }, accessFlags := 1, code := some k8c2 }
def k8c3 : Code := { maxStack := 4, maxLocals := 6, code := jdk_42_method_149_code, exceptionTable := #[], attributes := #[] }
def k8m3 : Method := { name := "<init>", desc := "([CIILjava/lang/Void;)V", sig := { parameters := [(.array .char), .int, .int, (.object "java/lang/Void")], returnType := none }, accessFlags := 2, code := some k8c3 }
/-- java/lang/String -/
def k8 : Class := { plain "java/lang/String" (some 0) with
  accessFlags := 49
  interfaces := #[3, 4, 5, 6, 7]
  cf := some (fileOf pool8 10 #[.nestMembers #[1103]] #[{ accessFlags := 1, nameIndex := 5, descriptorIndex := 6, attributes := #[] }, { accessFlags := 1, nameIndex := 5, descriptorIndex := 1010, attributes := #[] }, { accessFlags := 1, nameIndex := 543, descriptorIndex := 573, attributes := #[] }, { accessFlags := 2, nameIndex := 5, descriptorIndex := 29, attributes := #[] }] 49 2 #[1106, 1108, 575, 1110, 1112] #[{ accessFlags := 18, nameIndex := 13, descriptorIndex := 14, attributes := #[] }, { accessFlags := 18, nameIndex := 17, descriptorIndex := 18, attributes := #[] }, { accessFlags := 2, nameIndex := 21, descriptorIndex := 22, attributes := #[] }, { accessFlags := 2, nameIndex := 25, descriptorIndex := 26, attributes := #[] }, { accessFlags := 26, nameIndex := 1116, descriptorIndex := 1117, attributes := #[] }, { accessFlags := 24, nameIndex := 40, descriptorIndex := 26, attributes := #[] }, { accessFlags := 26, nameIndex := 1101, descriptorIndex := 1102, attributes := #[] }, { accessFlags := 26, nameIndex := 1121, descriptorIndex := 1122, attributes := #[] }, { accessFlags := 25, nameIndex := 599, descriptorIndex := 600, attributes := #[] }, { accessFlags := 24, nameIndex := 1125, descriptorIndex := 18, attributes := #[] }, { accessFlags := 24, nameIndex := 1127, descriptorIndex := 18, attributes := #[] }])
  fields := #[{ name := "value", type := (.array .byte), accessFlags := 18, slot := 0, constantValue := 0 }, { name := "coder", type := .byte, accessFlags := 18, slot := 1, constantValue := 0 }, { name := "hash", type := .int, accessFlags := 2, slot := 2, constantValue := 0 }, { name := "hashIsZero", type := .boolean, accessFlags := 2, slot := 3, constantValue := 0 }, { name := "serialVersionUID", type := .long, accessFlags := 26, slot := 0, constantValue := 0 }, { name := "COMPACT_STRINGS", type := .boolean, accessFlags := 24, slot := 1, constantValue := 0 }, { name := "serialPersistentFields", type := (.array (.object "java/io/ObjectStreamField")), accessFlags := 26, slot := 2, constantValue := 0 }, { name := "REPL", type := .char, accessFlags := 26, slot := 3, constantValue := 0 }, { name := "CASE_INSENSITIVE_ORDER", type := (.object "java/util/Comparator"), accessFlags := 25, slot := 4, constantValue := 0 }, { name := "LATIN1", type := .byte, accessFlags := 24, slot := 5, constantValue := 0 }, { name := "UTF16", type := .byte, accessFlags := 24, slot := 6, constantValue := 0 }]
  methods := #[k8m0, k8m1, k8m2, k8m3]
  instanceTypes := #[(.array .byte), .byte, .int, .boolean]
  staticTypes := #[.long, .boolean, (.array (.object "java/io/ObjectStreamField")), .char, (.object "java/util/Comparator"), .byte, .byte]
  resolved := Array.replicate 1451 none
  statics := some 0 }

def pool9 : Array CpInfo := pool [(4, .class_ 6), (1, u "java/lang/Object"), (0, u "<init>"), (0, u "()V"), (5, .class_ 16), (1, u "java/lang/StringLatin1"), (104, u "$assertionsDisabled"), (0, u "Z"), (98, .class_ 223), (1, u "java/lang/StringLatin1$LinesSpliterator"), (57, u "equals"), (0, u "([B[B)Z"), (107, .class_ 391), (0, u "java/lang/StringLatin1$CharsSpliterator")] 3

def k9m0 : Method := { name := "<init>", desc := "()V", sig := { parameters := [], returnType := none }, accessFlags := 0, code := none }
def k9c1 : Code := { maxStack := 3, maxLocals := 3, code := jdk_43_method_13_code, exceptionTable := #[], attributes := #[] }
def k9m1 : Method := { name := "equals", desc := "([B[B)Z", sig := { parameters := [(.array .byte), (.array .byte)], returnType := some .boolean }, accessFlags := 9, code := some k9c1 }
/-- java/lang/StringLatin1 -/
def k9 : Class := { plain "java/lang/StringLatin1" (some 0) with
  accessFlags := 48
  interfaces := #[]
  cf := some (fileOf pool9 14 #[.nestMembers #[390, 221]] #[{ accessFlags := 0, nameIndex := 7, descriptorIndex := 8, attributes := #[] }, { accessFlags := 9, nameIndex := 281, descriptorIndex := 282, attributes := #[] }] 48 4 #[] #[{ accessFlags := 4120, nameIndex := 121, descriptorIndex := 122, attributes := #[] }])
  fields := #[{ name := "$assertionsDisabled", type := .boolean, accessFlags := 4120, slot := 0, constantValue := 0 }]
  methods := #[k9m0, k9m1]
  instanceTypes := #[]
  staticTypes := #[.boolean]
  resolved := Array.replicate 395 none
  statics := none }

def pool10 : Array CpInfo := pool [(6, .class_ 8), (1, u "java/lang/Object"), (0, u "<init>"), (0, u "()V"), (1, .class_ 14), (1, u "java/lang/StringUTF16"), (31, u "$assertionsDisabled"), (0, u "Z"), (13, u "HI_BYTE_SHIFT"), (0, u "I"), (2, u "LO_BYTE_SHIFT"), (49, .methodref 12 116), (0, .nameAndType 117 118), (0, u "compress"), (0, u "([CI[BII)I"), (3, u "([CII)[B"), (138, u "coderFromArrayLen"), (0, u "([BI)B"), (106, .class_ 371), (1, u "java/lang/StringUTF16$LinesSpliterator"), (58, u "MAX_LENGTH"), (196, .class_ 628), (0, u "java/lang/StringUTF16$CodePointsSpliterator"), (0, .class_ 630), (0, u "java/lang/StringUTF16$CharsSpliterator")] 4

def k10m0 : Method := { name := "<init>", desc := "()V", sig := { parameters := [], returnType := none }, accessFlags := 0, code := none }
def k10c1 : Code := { maxStack := 2, maxLocals := 2, code := jdk_52_method_15_code, exceptionTable := #[], attributes := #[] }
def k10m1 : Method := { name := "coderFromArrayLen", desc := "([BI)B", sig := { parameters := [(.array .byte), .int], returnType := some .byte }, accessFlags := 8, code := some k10c1 }
def k10c2 : Code := { maxStack := 5, maxLocals := 6, code := jdk_52_method_16_code, exceptionTable := #[], attributes := #[] }
def k10m2 : Method := { name := "compress", desc := "([CII)[B", sig := { parameters := [(.array .char), .int, .int], returnType := some (.array .byte) }, accessFlags := 9, code := some k10c2 }
def k10c3 : Code := { maxStack := 3, maxLocals := 7, code := jdk_52_method_21_code, exceptionTable := #[], attributes := #[] }
def k10m3 : Method := { name := "compress", desc := "([CI[BII)I", sig := { parameters := [(.array .char), .int, (.array .byte), .int, .int], returnType := some .int }, accessFlags := 9, code := some k10c3 }
/-- java/lang/StringUTF16 -/
def k10 : Class := { plain "java/lang/StringUTF16" (some 0) with
  accessFlags := 48
  interfaces := #[]
  cf := some (fileOf pool10 12 #[.nestMembers #[627, 629, 369]] #[{ accessFlags := 0, nameIndex := 9, descriptorIndex := 10, attributes := #[] }, { accessFlags := 8, nameIndex := 261, descriptorIndex := 262, attributes := #[] }, { accessFlags := 9, nameIndex := 117, descriptorIndex := 122, attributes := #[] }, { accessFlags := 9, nameIndex := 117, descriptorIndex := 118, attributes := #[] }] 48 6 #[] #[{ accessFlags := 26, nameIndex := 61, descriptorIndex := 62, attributes := #[] }, { accessFlags := 26, nameIndex := 65, descriptorIndex := 62, attributes := #[] }, { accessFlags := 24, nameIndex := 430, descriptorIndex := 62, attributes := #[] }, { accessFlags := 4120, nameIndex := 46, descriptorIndex := 47, attributes := #[] }])
  fields := #[{ name := "HI_BYTE_SHIFT", type := .int, accessFlags := 26, slot := 0, constantValue := 0 }, { name := "LO_BYTE_SHIFT", type := .int, accessFlags := 26, slot := 1, constantValue := 0 }, { name := "MAX_LENGTH", type := .int, accessFlags := 24, slot := 2, constantValue := 0 }, { name := "$assertionsDisabled", type := .boolean, accessFlags := 4120, slot := 3, constantValue := 0 }]
  methods := #[k10m0, k10m1, k10m2, k10m3]
  instanceTypes := #[]
  staticTypes := #[.int, .int, .int, .boolean]
  resolved := Array.replicate 635 none
  statics := none }

def pool11 : Array CpInfo := pool [(2, .class_ 4), (1, u "java/lang/Object"), (0, u "<init>"), (0, u "()V"), (17, .class_ 26), (1, u "jdk/internal/util/Preconditions"), (28, .class_ 56), (0, u "jdk/internal/util/Preconditions$4"), (57, .class_ 115), (0, u "jdk/internal/util/Preconditions$1"), (7, u "SIOOBE_FORMATTER"), (0, u "Ljava/util/function/BiFunction;"), (0, .class_ 126), (0, u "jdk/internal/util/Preconditions$2"), (3, u "AIOOBE_FORMATTER"), (0, .class_ 132), (0, u "jdk/internal/util/Preconditions$3"), (3, u "IOOBE_FORMATTER")] 57

def k11m0 : Method := { name := "<init>", desc := "()V", sig := { parameters := [], returnType := none }, accessFlags := 1, code := none }
/-- jdk/internal/util/Preconditions -/
def k11 : Class := { plain "jdk/internal/util/Preconditions" (some 0) with
  accessFlags := 33
  interfaces := #[]
  cf := some (fileOf pool11 24 #[.nestMembers #[55, 131, 125, 114]] #[{ accessFlags := 1, nameIndex := 5, descriptorIndex := 6, attributes := #[] }] 33 2 #[] #[{ accessFlags := 25, nameIndex := 123, descriptorIndex := 124, attributes := #[] }, { accessFlags := 25, nameIndex := 130, descriptorIndex := 124, attributes := #[] }, { accessFlags := 25, nameIndex := 136, descriptorIndex := 124, attributes := #[] }])
  fields := #[{ name := "SIOOBE_FORMATTER", type := (.object "java/util/function/BiFunction"), accessFlags := 25, slot := 0, constantValue := 0 }, { name := "AIOOBE_FORMATTER", type := (.object "java/util/function/BiFunction"), accessFlags := 25, slot := 1, constantValue := 0 }, { name := "IOOBE_FORMATTER", type := (.object "java/util/function/BiFunction"), accessFlags := 25, slot := 2, constantValue := 0 }]
  methods := #[k11m0]
  instanceTypes := #[]
  staticTypes := #[(.object "java/util/function/BiFunction"), (.object "java/util/function/BiFunction"), (.object "java/util/function/BiFunction")]
  resolved := Array.replicate 194 none
  statics := some 1 }

def pool12 : Array CpInfo := pool [(9, u "<init>"), (6, .class_ 18), (1, u "java/lang/Object"), (0, u "()V"), (1, .class_ 23), (1, u "jdk/internal/util/ArraysSupport"), (0, u "LOG2_ARRAY_LONG_INDEX_SCALE"), (0, u "I"), (2, u "U"), (0, u "Ljdk/internal/misc/Unsafe;"), (8, u "BIG_ENDIAN"), (0, u "Z"), (8, u "LOG2_BYTE_BIT_SIZE"), (4, u "LOG2_ARRAY_INT_INDEX_SCALE"), (54, u "JLA"), (0, u "Ljdk/internal/access/JavaLangAccess;"), (11, u "LOG2_ARRAY_BOOLEAN_INDEX_SCALE"), (9, u "LOG2_ARRAY_BYTE_INDEX_SCALE"), (5, u "LOG2_ARRAY_CHAR_INDEX_SCALE"), (5, u "LOG2_ARRAY_SHORT_INDEX_SCALE"), (18, u "LOG2_ARRAY_FLOAT_INDEX_SCALE"), (24, u "LOG2_ARRAY_DOUBLE_INDEX_SCALE"), (89, u "T_BOOLEAN"), (2, u "T_CHAR"), (1, u "T_FLOAT"), (1, u "T_DOUBLE"), (1, u "T_BYTE"), (1, u "T_SHORT"), (1, u "T_INT"), (1, u "T_LONG"), (1, u "SOFT_MAX_ARRAY_LENGTH")] 83

def k12m0 : Method := { name := "<init>", desc := "()V", sig := { parameters := [], returnType := none }, accessFlags := 2, code := none }
/-- jdk/internal/util/ArraysSupport -/
def k12 : Class := { plain "jdk/internal/util/ArraysSupport" (some 0) with
  accessFlags := 33
  interfaces := #[]
  cf := some (fileOf pool12 21 #[] #[{ accessFlags := 2, nameIndex := 9, descriptorIndex := 19, attributes := #[] }] 33 16 #[] #[{ accessFlags := 24, nameIndex := 28, descriptorIndex := 29, attributes := #[] }, { accessFlags := 26, nameIndex := 38, descriptorIndex := 39, attributes := #[] }, { accessFlags := 25, nameIndex := 121, descriptorIndex := 25, attributes := #[] }, { accessFlags := 25, nameIndex := 131, descriptorIndex := 25, attributes := #[] }, { accessFlags := 25, nameIndex := 137, descriptorIndex := 25, attributes := #[] }, { accessFlags := 25, nameIndex := 143, descriptorIndex := 25, attributes := #[] }, { accessFlags := 25, nameIndex := 53, descriptorIndex := 25, attributes := #[] }, { accessFlags := 25, nameIndex := 24, descriptorIndex := 25, attributes := #[] }, { accessFlags := 25, nameIndex := 162, descriptorIndex := 25, attributes := #[] }, { accessFlags := 25, nameIndex := 187, descriptorIndex := 25, attributes := #[] }, { accessFlags := 26, nameIndex := 48, descriptorIndex := 25, attributes := #[] }, { accessFlags := 25, nameIndex := 277, descriptorIndex := 25, attributes := #[] }, { accessFlags := 25, nameIndex := 280, descriptorIndex := 25, attributes := #[] }, { accessFlags := 25, nameIndex := 282, descriptorIndex := 25, attributes := #[] }, { accessFlags := 25, nameIndex := 284, descriptorIndex := 25, attributes := #[] }, { accessFlags := 25, nameIndex := 286, descriptorIndex := 25, attributes := #[] }, { accessFlags := 25, nameIndex := 288, descriptorIndex := 25, attributes := #[] }, { accessFlags := 25, nameIndex := 290, descriptorIndex := 25, attributes := #[] }, { accessFlags := 25, nameIndex := 292, descriptorIndex := 25, attributes := #[] }, { accessFlags := 26, nameIndex := 108, descriptorIndex := 109, attributes := #[] }, { accessFlags := 25, nameIndex := 294, descriptorIndex := 25, attributes := #[] }])
  fields := #[{ name := "U", type := (.object "jdk/internal/misc/Unsafe"), accessFlags := 24, slot := 0, constantValue := 0 }, { name := "BIG_ENDIAN", type := .boolean, accessFlags := 26, slot := 1, constantValue := 0 }, { name := "LOG2_ARRAY_BOOLEAN_INDEX_SCALE", type := .int, accessFlags := 25, slot := 2, constantValue := 0 }, { name := "LOG2_ARRAY_BYTE_INDEX_SCALE", type := .int, accessFlags := 25, slot := 3, constantValue := 0 }, { name := "LOG2_ARRAY_CHAR_INDEX_SCALE", type := .int, accessFlags := 25, slot := 4, constantValue := 0 }, { name := "LOG2_ARRAY_SHORT_INDEX_SCALE", type := .int, accessFlags := 25, slot := 5, constantValue := 0 }, { name := "LOG2_ARRAY_INT_INDEX_SCALE", type := .int, accessFlags := 25, slot := 6, constantValue := 0 }, { name := "LOG2_ARRAY_LONG_INDEX_SCALE", type := .int, accessFlags := 25, slot := 7, constantValue := 0 }, { name := "LOG2_ARRAY_FLOAT_INDEX_SCALE", type := .int, accessFlags := 25, slot := 8, constantValue := 0 }, { name := "LOG2_ARRAY_DOUBLE_INDEX_SCALE", type := .int, accessFlags := 25, slot := 9, constantValue := 0 }, { name := "LOG2_BYTE_BIT_SIZE", type := .int, accessFlags := 26, slot := 10, constantValue := 0 }, { name := "T_BOOLEAN", type := .int, accessFlags := 25, slot := 11, constantValue := 0 }, { name := "T_CHAR", type := .int, accessFlags := 25, slot := 12, constantValue := 0 }, { name := "T_FLOAT", type := .int, accessFlags := 25, slot := 13, constantValue := 0 }, { name := "T_DOUBLE", type := .int, accessFlags := 25, slot := 14, constantValue := 0 }, { name := "T_BYTE", type := .int, accessFlags := 25, slot := 15, constantValue := 0 }, { name := "T_SHORT", type := .int, accessFlags := 25, slot := 16, constantValue := 0 }, { name := "T_INT", type := .int, accessFlags := 25, slot := 17, constantValue := 0 }, { name := "T_LONG", type := .int, accessFlags := 25, slot := 18, constantValue := 0 }, { name := "JLA", type := (.object "jdk/internal/access/JavaLangAccess"), accessFlags := 26, slot := 19, constantValue := 0 }, { name := "SOFT_MAX_ARRAY_LENGTH", type := .int, accessFlags := 25, slot := 20, constantValue := 0 }]
  methods := #[k12m0]
  instanceTypes := #[]
  staticTypes := #[(.object "jdk/internal/misc/Unsafe"), .boolean, .int, .int, .int, .int, .int, .int, .int, .int, .int, .int, .int, .int, .int, .int, .int, .int, .int, (.object "jdk/internal/access/JavaLangAccess"), .int]
  resolved := Array.replicate 378 none
  statics := none }

def pool13 : Array CpInfo := pool [(1, u "java/lang/Cloneable"), (0, .class_ 1), (0, u "java/lang/Object"), (0, .class_ 3)] 3

/-- java/lang/Cloneable -/
def k13 : Class := { plain "java/lang/Cloneable" (some 0) with
  accessFlags := 1537
  interfaces := #[]
  cf := some (fileOf pool13 2 #[] #[] 1537 4 #[] #[])
  fields := #[]
  methods := #[]
  instanceTypes := #[]
  staticTypes := #[]
  resolved := Array.replicate 8 none
  statics := none }

/-- the primitive byte -/
def k14 : Class := { plain "byte" none with kind := .primitive 'B', accessFlags := 0x411 }
/-- [B -/
def k15 : Class := { plain "[B" (some 0) with kind := .array 14 .byte, interfaces := #[13, 3], accessFlags := 1041 }

/-- the primitive char -/
def k16 : Class := { plain "char" none with kind := .primitive 'C', accessFlags := 0x411 }
/-- [C -/
def k17 : Class := { plain "[C" (some 0) with kind := .array 16 .char, interfaces := #[13, 3], accessFlags := 1041 }

/-- the primitive int -/
def k18 : Class := { plain "int" none with kind := .primitive 'I', accessFlags := 0x411 }
/-- [I -/
def k19 : Class := { plain "[I" (some 0) with kind := .array 18 .int, interfaces := #[13, 3], accessFlags := 1041 }

def heap : Heap := #[{ cls := 8, slots := #[.long 0, .int 1, .null, .int 0, .null, .int 0, .int 0], vm := .statics 8 },
  { cls := 11, slots := #[.null, .null, .null], vm := .statics 11 }]
def classes : Array Class := #[k0, k1, k2, k3, k4, k5, k6, k7, k8, k9, k10, k11, k12, k13, k14, k15, k16, k17, k18, k19]
def interned : List (Array UInt16 × Addr) := []
def slotsUsed : Nat := 10
def theMethod : MethodId := ⟨1, 3⟩
def args0 : Array Value := #[.int 5, .int 2, .int 3, .int 4, .int 5]
def aboutOver (below : List Frame) : State where
  vm := { classes := classes, interned := interned.toArray }
  heap := heap
  slotsUsed := slotsUsed
  threads := #[{ frames := .invoking theMethod args0 :: below }]
def below0 : List Frame := [.native { method := ⟨0, 0⟩, args := #[] }]
def about1 : State := aboutOver below0
def p0 : Program := .bare "" "" ""
def e0 : Env := launch0.env 0 0 0
theorem w_frames : about1.frames = Frame.invoking theMethod args0 :: below0 := rfl
set_option maxRecDepth 65536 in
theorem w_args : argsFit about1.vm theMethod args0 = true := by decide +kernel
set_option maxRecDepth 65536 in
theorem w_heap : heapFits about1 = true := by decide +kernel
set_option maxRecDepth 65536 in
theorem w_runnable : about1.curStatus? = some .runnable := by decide +kernel
set_option maxRecDepth 65536 in
theorem w_alone : about1.alone = true := by decide +kernel
set_option maxRecDepth 65536 in
theorem w_named : about1.methodNamed? x = some theMethod := by decide +kernel
set_option maxRecDepth 65536 in
theorem w_hears : about1.hears theMethod below0 = true := by decide +kernel
set_option maxRecDepth 65536 in
theorem w_ripe : about1.ripe theMethod args0 below0 = true := by decide +kernel
theorem w_running : about1.status = .running := rfl
set_option maxRecDepth 65536 in
theorem w_room : about1.hasRoom e0.platform room_1 = true :=
  launch0.hasRoom_least _ room_1 (by decide +kernel) (by decide +kernel) (by decide +kernel) (by decide +kernel) (by decide +kernel) (by decide +kernel)
theorem allAtoms_all (ts : List Jvm.Cond) (a : Array Jvm.Value) (st : Jvm.State) : (allAtoms ts).before a st = ts.all (fun c => c.before a st) := by
  induction ts with
  | nil => rfl
  | cons c t ih =>
    show (Jvm.Cond.and c (allAtoms t)).before a st = _
    rw [Jvm.Cond.before_and, ih, List.all_cons]
def words1 : List Jvm.Cond := Jvm.Cond.code x code maxLocals ret :: tables_1
/-- a 'code' word, met by the world's own term for the bytes: nothing is compared byte by byte -/
theorem code_word {y : MethodName} {bytes : ByteArray} {mx : Nat} {rt : Option FieldType} {a : Array Value} {s : State} {m : MethodId} {meth : Method} {c : Code} (h1 : s.methodNamed? y = some m) (h2 : s.vm.method? m = some meth) (h3 : meth.code = some c) (h4 : c.code = bytes)
    (h5 : (c.maxLocals == mx && c.exceptionTable.isEmpty && decide (c.maxStack ≤ mostOperands) && decide (meth.sig.returnType = rt) && !meth.locks && decide (parseMethodDescriptor y.desc = some meth.sig)) = true) : (Jvm.Cond.code y bytes mx rt).before a s = true := by
  simp only [Bool.and_eq_true, beq_iff_eq, Bool.not_eq_true', decide_eq_true_eq] at h5
  obtain ⟨⟨⟨⟨⟨g1, g2⟩, g3⟩, g4⟩, g5⟩, g6⟩ := h5
  simp [Cond.before, Cond.holds, Cond.value, h1, h2, h3, h4, g1, g2, g3, g4, g5, g6]
def isCode : Jvm.Cond → Bool
  | .code _ _ _ _ => true
  | _ => false
theorem all_split {L : List Jvm.Cond} {P : Jvm.Cond → Bool} (h1 : L.all (fun c => isCode c || P c) = true) (h2 : ∀ c ∈ L.filter isCode, P c = true) : L.all P = true := by
  refine List.all_eq_true.mpr fun c hc => ?_
  have h := List.all_eq_true.mp h1 c hc
  rcases Bool.eq_false_or_eq_true (isCode c) with hi | hi
  · exact h2 c (List.mem_filter.mpr ⟨hc, hi⟩)
  · simpa [hi] using h
set_option maxRecDepth 65536 in
theorem w_c0 : (Jvm.Cond.code x code maxLocals ret).before args0 about1 = true := code_word (m := ⟨1, 3⟩) (meth := k1m3) (c := k1c3) (by decide +kernel) rfl rfl rfl (by decide +kernel)
set_option maxRecDepth 65536 in
theorem w_c1 : (Jvm.Cond.code ({ cls := "com/example/postbag/postbag/broker/StoredBindingEqualsPinLaw", name := "mk", desc := "(II)Ljava/lang/String;" } : Jvm.MethodName) method_2_code (5 : Nat) (Option.some (Jvm.ClassFile.FieldType.object "java/lang/String"))).before args0 about1 = true := code_word (m := ⟨1, 1⟩) (meth := k1m1) (c := k1c1) (by decide +kernel) rfl rfl rfl (by decide +kernel)
set_option maxRecDepth 65536 in
theorem w_c2 : (Jvm.Cond.code ({ cls := "java/lang/String", name := "<init>", desc := "([C)V" } : Jvm.MethodName) jdk_42_method_3_code (2 : Nat) (Option.none : Option Jvm.ClassFile.FieldType)).before args0 about1 = true := code_word (m := ⟨8, 1⟩) (meth := k8m1) (c := k8c1) (by decide +kernel) rfl rfl rfl (by decide +kernel)
set_option maxRecDepth 65536 in
theorem w_c3 : (Jvm.Cond.code ({ cls := "java/lang/String", name := "<init>", desc := "([CIILjava/lang/Void;)V" } : Jvm.MethodName) jdk_42_method_149_code (6 : Nat) (Option.none : Option Jvm.ClassFile.FieldType)).before args0 about1 = true := code_word (m := ⟨8, 3⟩) (meth := k8m3) (c := k8c3) (by decide +kernel) rfl rfl rfl (by decide +kernel)
set_option maxRecDepth 65536 in
theorem w_c4 : (Jvm.Cond.code ({ cls := "java/lang/Object", name := "<init>", desc := "()V" } : Jvm.MethodName) object_method_1_code (1 : Nat) (Option.none : Option Jvm.ClassFile.FieldType)).before args0 about1 = true := code_word (m := ⟨0, 0⟩) (meth := k0m0) (c := k0c0) (by decide +kernel) rfl rfl rfl (by decide +kernel)
set_option maxRecDepth 65536 in
theorem w_c5 : (Jvm.Cond.code ({ cls := "com/example/postbag/postbag/broker/StoredBinding", name := "<init>", desc := "(Ljava/lang/String;Ljava/lang/String;)V" } : Jvm.MethodName) prog_9_method_1_code (3 : Nat) (Option.none : Option Jvm.ClassFile.FieldType)).before args0 about1 = true := code_word (m := ⟨2, 0⟩) (meth := k2m0) (c := k2c0) (by decide +kernel) rfl rfl rfl (by decide +kernel)
set_option maxRecDepth 65536 in
theorem w_c6 : (Jvm.Cond.code ({ cls := "com/example/postbag/postbag/broker/StoredBindingEqualsPinLaw", name := "same", desc := "(IIII)Z" } : Jvm.MethodName) method_3_code (4 : Nat) (Option.some Jvm.ClassFile.FieldType.boolean)).before args0 about1 = true := code_word (m := ⟨1, 2⟩) (meth := k1m2) (c := k1c2) (by decide +kernel) rfl rfl rfl (by decide +kernel)
set_option maxRecDepth 65536 in
theorem w_c7 : (Jvm.Cond.code ({ cls := "com/example/postbag/postbag/broker/StoredBinding", name := "equals", desc := "(Ljava/lang/Object;)Z" } : Jvm.MethodName) prog_9_method_4_code (3 : Nat) (Option.some Jvm.ClassFile.FieldType.boolean)).before args0 about1 = true := code_word (m := ⟨2, 1⟩) (meth := k2m1) (c := k2c1) (by decide +kernel) rfl rfl rfl (by decide +kernel)
set_option maxRecDepth 65536 in
theorem w_c8 : (Jvm.Cond.code ({ cls := "java/lang/String", name := "equals", desc := "(Ljava/lang/Object;)Z" } : Jvm.MethodName) jdk_42_method_66_code (3 : Nat) (Option.some Jvm.ClassFile.FieldType.boolean)).before args0 about1 = true := code_word (m := ⟨8, 2⟩) (meth := k8m2) (c := k8c2) (by decide +kernel) rfl rfl rfl (by decide +kernel)
set_option maxRecDepth 65536 in
theorem w_c9 : (Jvm.Cond.code ({ cls := "java/lang/StringLatin1", name := "equals", desc := "([B[B)Z" } : Jvm.MethodName) jdk_43_method_13_code (3 : Nat) (Option.some Jvm.ClassFile.FieldType.boolean)).before args0 about1 = true := code_word (m := ⟨9, 1⟩) (meth := k9m1) (c := k9c1) (by decide +kernel) rfl rfl rfl (by decide +kernel)
set_option maxRecDepth 65536 in
theorem w_c10 : (Jvm.Cond.code ({ cls := "java/lang/StringUTF16", name := "compress", desc := "([CII)[B" } : Jvm.MethodName) jdk_52_method_16_code (6 : Nat) (Option.some (Jvm.ClassFile.FieldType.array Jvm.ClassFile.FieldType.byte))).before args0 about1 = true := code_word (m := ⟨10, 2⟩) (meth := k10m2) (c := k10c2) (by decide +kernel) rfl rfl rfl (by decide +kernel)
set_option maxRecDepth 65536 in
theorem w_c11 : (Jvm.Cond.code ({ cls := "java/lang/StringUTF16", name := "compress", desc := "([CI[BII)I" } : Jvm.MethodName) jdk_52_method_21_code (7 : Nat) (Option.some Jvm.ClassFile.FieldType.int)).before args0 about1 = true := code_word (m := ⟨10, 3⟩) (meth := k10m3) (c := k10c3) (by decide +kernel) rfl rfl rfl (by decide +kernel)
set_option maxRecDepth 65536 in
theorem w_c12 : (Jvm.Cond.code ({ cls := "java/lang/StringUTF16", name := "coderFromArrayLen", desc := "([BI)B" } : Jvm.MethodName) jdk_52_method_15_code (2 : Nat) (Option.some Jvm.ClassFile.FieldType.byte)).before args0 about1 = true := code_word (m := ⟨10, 1⟩) (meth := k10m1) (c := k10c1) (by decide +kernel) rfl rfl rfl (by decide +kernel)
def codes1 : List Jvm.Cond := [Jvm.Cond.code x code maxLocals ret, Jvm.Cond.code ({ cls := "com/example/postbag/postbag/broker/StoredBindingEqualsPinLaw", name := "mk", desc := "(II)Ljava/lang/String;" } : Jvm.MethodName) method_2_code (5 : Nat) (Option.some (Jvm.ClassFile.FieldType.object "java/lang/String")), Jvm.Cond.code ({ cls := "java/lang/String", name := "<init>", desc := "([C)V" } : Jvm.MethodName) jdk_42_method_3_code (2 : Nat) (Option.none : Option Jvm.ClassFile.FieldType), Jvm.Cond.code ({ cls := "java/lang/String", name := "<init>", desc := "([CIILjava/lang/Void;)V" } : Jvm.MethodName) jdk_42_method_149_code (6 : Nat) (Option.none : Option Jvm.ClassFile.FieldType), Jvm.Cond.code ({ cls := "java/lang/Object", name := "<init>", desc := "()V" } : Jvm.MethodName) object_method_1_code (1 : Nat) (Option.none : Option Jvm.ClassFile.FieldType), Jvm.Cond.code ({ cls := "com/example/postbag/postbag/broker/StoredBinding", name := "<init>", desc := "(Ljava/lang/String;Ljava/lang/String;)V" } : Jvm.MethodName) prog_9_method_1_code (3 : Nat) (Option.none : Option Jvm.ClassFile.FieldType), Jvm.Cond.code ({ cls := "com/example/postbag/postbag/broker/StoredBindingEqualsPinLaw", name := "same", desc := "(IIII)Z" } : Jvm.MethodName) method_3_code (4 : Nat) (Option.some Jvm.ClassFile.FieldType.boolean), Jvm.Cond.code ({ cls := "com/example/postbag/postbag/broker/StoredBinding", name := "equals", desc := "(Ljava/lang/Object;)Z" } : Jvm.MethodName) prog_9_method_4_code (3 : Nat) (Option.some Jvm.ClassFile.FieldType.boolean), Jvm.Cond.code ({ cls := "java/lang/String", name := "equals", desc := "(Ljava/lang/Object;)Z" } : Jvm.MethodName) jdk_42_method_66_code (3 : Nat) (Option.some Jvm.ClassFile.FieldType.boolean), Jvm.Cond.code ({ cls := "java/lang/StringLatin1", name := "equals", desc := "([B[B)Z" } : Jvm.MethodName) jdk_43_method_13_code (3 : Nat) (Option.some Jvm.ClassFile.FieldType.boolean), Jvm.Cond.code ({ cls := "java/lang/StringUTF16", name := "compress", desc := "([CII)[B" } : Jvm.MethodName) jdk_52_method_16_code (6 : Nat) (Option.some (Jvm.ClassFile.FieldType.array Jvm.ClassFile.FieldType.byte)), Jvm.Cond.code ({ cls := "java/lang/StringUTF16", name := "compress", desc := "([CI[BII)I" } : Jvm.MethodName) jdk_52_method_21_code (7 : Nat) (Option.some Jvm.ClassFile.FieldType.int), Jvm.Cond.code ({ cls := "java/lang/StringUTF16", name := "coderFromArrayLen", desc := "([BI)B" } : Jvm.MethodName) jdk_52_method_15_code (2 : Nat) (Option.some Jvm.ClassFile.FieldType.byte)]
set_option maxRecDepth 65536 in
theorem codes_eq : words1.filter isCode = codes1 := rfl
theorem w_codes : ∀ c ∈ words1.filter isCode, c.before args0 about1 = true := by
  rw [codes_eq]
  intro c hc
  simp only [codes1, List.mem_cons, List.not_mem_nil, or_false] at hc
  rcases hc with rfl | rfl | rfl | rfl | rfl | rfl | rfl | rfl | rfl | rfl | rfl | rfl | rfl
  · exact w_c0
  · exact w_c1
  · exact w_c2
  · exact w_c3
  · exact w_c4
  · exact w_c5
  · exact w_c6
  · exact w_c7
  · exact w_c8
  · exact w_c9
  · exact w_c10
  · exact w_c11
  · exact w_c12
set_option maxRecDepth 65536 in
theorem w_t1 : (words1.take 24).all (fun c => isCode c || c.before args0 about1) = true := by decide +kernel
set_option maxRecDepth 65536 in
theorem w_t2 : ((words1.drop 24).take 24).all (fun c => isCode c || c.before args0 about1) = true := by decide +kernel
set_option maxRecDepth 65536 in
theorem w_t3 : ((words1.drop 24).drop 24).all (fun c => isCode c || c.before args0 about1) = true := by decide +kernel
theorem w_tables : (allAtoms (Jvm.Cond.code x code maxLocals ret :: tables_1)).before args0 about1 = true := by
  rw [allAtoms_all]
  show words1.all (fun c => c.before args0 about1) = true
  refine all_split ?_ w_codes
  rw [← List.take_append_drop 24 words1, List.all_append, w_t1, ← List.take_append_drop 24 (words1.drop 24), List.all_append, w_t2, w_t3]
  rfl
set_option maxRecDepth 65536 in
theorem w_rest : rest_1_c.before args0 about1 = true := by decide +kernel
set_option maxRecDepth 65536 in
theorem w_case : (Jvm.Cond.and given_1 narrow_1).before args0 about1 = true := by decide +kernel
set_option maxRecDepth 65536 in
theorem w_consts : constsHeld consts_1 about1 := Jvm.Lit.constsHeldB_iff.mp (by decide +kernel)
theorem w_applies : (headSpec (Jvm.Cond.code x code maxLocals ret :: tables_1) room_1).applies x e0.platform about1 = true :=
  (Spec.applies_iff w_frames).mpr ⟨w_running, w_runnable, w_alone, w_named, w_hears, w_ripe, w_room, w_tables⟩
theorem atStart : AtStart classFile x code maxLocals ret World_1 tables_1 room_1 Calls_1 rest_1 Pre_1 launch0 p0 e0 about1 theMethod args0 below0 :=
  ⟨lists_1, trivial, launch0.admits_env _ _ _, launch0.least_env, fairChoices_fair.cas, fairChoices_fair.clock, w_frames, w_args, w_heap, w_applies, ⟨w_consts, trivial⟩, w_rest, w_case⟩
end start1
theorem witness_1 : WitnessClaimed_1 := ⟨start1.p0, start1.e0, start1.about1, start1.theMethod, start1.args0, start1.below0, start1.atStart⟩
end Jvm.Pilot.@@N@@
